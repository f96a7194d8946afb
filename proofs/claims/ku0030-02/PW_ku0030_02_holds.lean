import PyProof.Rows.All
import KE.KDictSum
import KE.KNestM
import Wide.All
import OpenK.AllK
import Wide.FinOn
import KE.KxPercent
import PyProof.ExcBaseAll.ValueError
import Lean
import PySem.Challenge.RW_ku0030_02
set_option autoImplicit false
set_option linter.all false
set_option Elab.async false
set_option maxRecDepth 100000
set_option maxHeartbeats 8000000
set_option compiler.extract_closed false
set_option bootstrap.genMatcherCode false
set_option genSizeOf false
set_option genInjectivity false
section
namespace Mine
open PySem PySem.W PyProof.Rows
theorem nos {α : Type} {G : Prop} {a : α} (h : none = some a) : G := nomatch h
theorem son {α : Type} {G : Prop} {a : α} (h : some a = none) : G := nomatch h
theorem ff {G : Prop} (h : false = true) : G := nomatch h
theorem smj {α : Type} {a b : α} (h : some a = some b) : a = b := Option.some.inj h
theorem wp_no {α : Type} {M : Model} {A : Around} {E : Value → Shared → Prop} {s : Shared} {Q : α → Shared → Prop} {c : Prop} {i : Decidable c} {a b : Sem α} (hc : ¬c) (h : wpAny M A b Q E s) : wpAny M A (@ite _ c i a b) Q E s := (congrArg (fun z => wpAny M A z Q E s) (if_neg hc)).mpr h
theorem wp_yes {α : Type} {M : Model} {A : Around} {E : Value → Shared → Prop} {s : Shared} {Q : α → Shared → Prop} {c : Prop} {i : Decidable c} {a b : Sem α} (hc : c) (h : wpAny M A a Q E s) : wpAny M A (@ite _ c i a b) Q E s := (congrArg (fun z => wpAny M A z Q E s) (if_pos hc)).mpr h
theorem wp_may {α : Type} {M : Model} {A : Around} {E : Value → Shared → Prop} {s : Shared} {Q : α → Shared → Prop} {c : Prop} {i : Decidable c} {a : Sem Unit} {k : Unit → Sem α} (hc : c → a = pure ()) (h : wpAny M A (k ()) Q E s) : wpAny M A (@ite _ c i (a >>= k) (k ())) Q E s := if hc' : c then wp_yes hc' (wpAny_bind (hc hc' ▸ wpAny_pure h)) else wp_no hc' h
noncomputable def lim : Nat := 1000000
theorem lim_size {n : Nat} (h : n ≤ lim) : n ≤ sizeLine := by rw [sizeLine_eq]; unfold lim at h; lia
theorem lim_63 {n : Nat} (h : n ≤ lim) : (n : Int) < 2 ^ 63 := by unfold lim at h; lia
noncomputable def isSep (c : Nat) : Bool := c == 44 || c == 59 || c == 61 || Unicode.isSpace c
noncomputable def noBlank (l : List Nat) : Bool := match l with
  | [] => true
  | c :: _ => !Unicode.isSpace c
noncomputable def isValEnd (c : Nat) : Bool := c == 44 || c == 59 || Unicode.isSpace c
noncomputable def isTokCh (c : Nat) : Bool := (48 ≤ c && c ≤ 57) || (65 ≤ c && c ≤ 90) || (97 ≤ c && c ≤ 122) || [33, 35, 36, 37, 38, 39, 42, 43, 45, 46, 94, 95, 96, 124, 126].contains c
noncomputable def special (c : Nat) : Bool := [40, 41, 91, 93, 123, 125, 63, 42, 43, 45, 124, 94, 36, 92, 46, 38, 126, 35, 32, 9, 10, 13, 11, 12].contains c
end Mine
end
namespace Mine
theorem lmL {n : Nat} (h : n ≤ 999) : n ≤ lim := Nat.le_trans h (by unfold lim; decide)
theorem lmT {n : Nat} (h : n < 999) : n < lim := Nat.lt_trans h (by unfold lim; decide)
end Mine
local macro_rules | `(tactic| walk_at "lm") => `(tactic| first | exact Mine.lmL (by decide) | exact Mine.lmT (by decide) | exact Mine.lmL (by lia) | exact Mine.lmT (by lia) | (unfold Mine.lim; lia))
section
namespace Mine
open PySem PySem.Sre
noncomputable def it : Nat → M → M
  | 0, m => m
  | n + 1, m => it n m.step
theorem it_add : ∀ (a b : Nat) (m : M), it (a + b) m = it b (it a m)
  | 0, b, m => by rw [Nat.zero_add]; rfl
  | a + 1, b, m => by rw [Nat.succ_add]; exact it_add a b m.step
noncomputable def wS (m : M) (s : Seen) : M := { m with seen := s }
noncomputable def Rch (n : Nat) (a b : M) : Prop := ∀ s, ∃ k, k ≤ n ∧ ∃ s', it k (wS a s) = wS b s'
theorem Rch.refl (a : M) : Rch 0 a a := fun s => ⟨0, Nat.le_refl _, s, rfl⟩
theorem Rch.trans {n k : Nat} {a b c : M} (x : Rch n a b) (y : Rch k b c) : Rch (n + k) a c := fun s => by
  obtain ⟨i, hi, s1, e1⟩ := x s
  obtain ⟨j, hj, s2, e2⟩ := y s1
  exact ⟨i + j, by lia, s2, by rw [it_add, e1, e2]⟩
theorem Rch.le {n k : Nat} {a b : M} (h : n ≤ k) (x : Rch n a b) : Rch k a b := fun s => let ⟨i, hi, r⟩ := x s; ⟨i, by lia, r⟩
theorem Rch.one {a b : M} (h : ∀ s, ∃ s', (wS a s).step = wS b s') : Rch 1 a b := fun s => let ⟨s', e⟩ := h s; ⟨1, Nat.le_refl _, s', e⟩
theorem Rch.ifp {n : Nat} {a b c : M} {p : Prop} [Decidable p] (h : Rch n a (if p then b else c)) (hp : p) : Rch n a b := by rw [if_pos hp] at h; exact h
theorem Rch.ifn {n : Nat} {a b c : M} {p : Prop} [Decidable p] (h : Rch n a (if p then b else c)) (hp : ¬ p) : Rch n a c := by rw [if_neg hp] at h; exact h
theorem wS_self (m : M) : wS m m.seen = m := rfl
section
variable {m : M}
theorem step_exec (ho : m.outcome = none) (ha : m.answer = none) (hp : m.pc < m.code.size) (s : Seen) : (wS m s).step = (wS m s).exec := by
  unfold M.step
  have h1 : (wS m s).outcome.isSome = false := by show m.outcome.isSome = false; rw [ho]; rfl
  have h2 : (wS m s).answer = none := ha
  rw [if_neg (by rw [h1]; exact Bool.false_ne_true)]
  rw [h2]
  have h3 : (wS m s).pc < (wS m s).code.size := hp
  dsimp only
  rw [if_pos h3]
theorem s_at0 (ho : m.outcome = none) (ha : m.answer = none) (hp : m.pc < m.code.size) (hw : m.code.getD m.pc 0 = 6) (hk : m.code.getD (m.pc + 1) 0 = 0) :
    Rch 1 m (if m.pos = 0 then { m with pc := m.pc + 2 } else m.say false) := .one fun s => by
  rw [step_exec ho ha hp]
  unfold M.exec
  have e0 : (wS m s).word 0 = 6 := hw
  have e1 : (wS m s).word 1 = 0 := hk
  rw [e0]
  have : ops[6]? = some Op.AT := by rfl
  rw [this]
  dsimp only
  have e2 : ({ wS m s with seen := (wS m s).seen.add 6 } : M).word 1 = 0 := hk
  rw [e2]
  by_cases hp0 : m.pos = 0
  · rw [if_pos hp0]
    have : ({ wS m s with seen := (wS m s).seen.add 6 } : M).isAt 0 = .ok true := by show Except.ok (m.pos == 0) = _; rw [hp0]; rfl
    rw [this]
    exact ⟨_, rfl⟩
  · rw [if_neg hp0]
    have : ({ wS m s with seen := (wS m s).seen.add 6 } : M).isAt 0 = .ok false := by show Except.ok (m.pos == 0) = _; rw [beq_eq_false_iff_ne.mpr hp0]
    rw [this]
    exact ⟨_, rfl⟩
theorem s_mark (ho : m.outcome = none) (ha : m.answer = none) (hp : m.pc < m.code.size) (hw : m.code.getD m.pc 0 = 17) : Rch 1 m (m.mark (m.code.getD (m.pc + 1) 0)) := .one fun s => by
  rw [step_exec ho ha hp]
  unfold M.exec
  have e0 : (wS m s).word 0 = 17 := hw
  rw [e0, show ops[17]? = some Op.MARK by rfl]
  exact ⟨_, rfl⟩
noncomputable def OneOk (code : Array Nat) (i c : Nat) (r : Bool) : Prop := ∀ s, ∃ s', accepts code i c s = .ok (r, s')
theorem s_lit (ho : m.outcome = none) (ha : m.answer = none) (hp : m.pc < m.code.size) (hw : m.code.getD m.pc 0 = 16) :
    Rch 1 m (if m.pos < m.lim ∧ m.text.getD m.pos 0 = m.code.getD (m.pc + 1) 0 then { m with pc := m.pc + 2, pos := m.pos + 1 } else m.say false) := .one fun s => by
  rw [step_exec ho ha hp]
  unfold M.exec
  have e0 : (wS m s).word 0 = 16 := hw
  rw [e0, show ops[16]? = some Op.LITERAL by rfl]
  dsimp only
  by_cases h1 : m.pos < m.lim
  · have h1' : ¬ (({ wS m s with seen := (wS m s).seen.add 16 } : M).pos ≥ ({ wS m s with seen := (wS m s).seen.add 16 } : M).lim) := by show ¬ m.pos ≥ m.lim; lia
    rw [if_neg h1']
    have ac : ∀ s1, accepts m.code m.pc (m.text.getD m.pos 0) s1 = .ok (m.text.getD m.pos 0 == m.code.getD (m.pc + 1) 0, s1) := fun s1 => by
      unfold accepts
      rw [hw, show ops[16]? = some Op.LITERAL by rfl]
    have ac' : accepts (wS m s).code (wS m s).pc ((wS m s).text.getD (wS m s).pos 0) ((wS m s).seen.add 16) = .ok (m.text.getD m.pos 0 == m.code.getD (m.pc + 1) 0, (wS m s).seen.add 16) := ac _
    rw [ac']
    by_cases h2 : m.text.getD m.pos 0 = m.code.getD (m.pc + 1) 0
    · rw [if_pos ⟨h1, h2⟩]
      have : (m.text.getD m.pos 0 == m.code.getD (m.pc + 1) 0) = true := beq_iff_eq.mpr h2
      rw [this]
      have iw : itemWidth m.code m.pc = 2 := by unfold itemWidth; rw [hw]; rfl
      refine ⟨(wS m s).seen.add 16, ?_⟩
      show ({ wS m s with seen := _, pc := m.pc + itemWidth m.code m.pc, pos := m.pos + 1 } : M) = _
      rw [iw]; rfl
    · rw [if_neg fun h => h2 h.2]
      have : (m.text.getD m.pos 0 == m.code.getD (m.pc + 1) 0) = false := beq_eq_false_iff_ne.mpr h2
      rw [this]
      exact ⟨_, rfl⟩
  · have h1' : (({ wS m s with seen := (wS m s).seen.add 16 } : M).pos ≥ ({ wS m s with seen := (wS m s).seen.add 16 } : M).lim) := by show m.pos ≥ m.lim; lia
    rw [if_pos h1', if_neg fun h => h1 h.1]
    exact ⟨_, rfl⟩
theorem run_ok {code text : Array Nat} {i : Nat} (p : Nat → Bool) (h : ∀ c, OneOk code i c (p c)) : ∀ (n pos found : Nat) (s : Seen), pos + n ≤ text.size →
    ∃ s', Sre.run code text i n pos found s = .ok (found + (((text.toList.drop pos).take n).takeWhile p).length, s')
  | 0, pos, found, s, _ => ⟨s, by simp [Sre.run]⟩
  | n + 1, pos, found, s, hn => by
    obtain ⟨s1, e1⟩ := h (text.getD pos 0) s
    unfold Sre.run
    rw [e1]
    have hlt : pos < text.toList.length := by rw [Array.length_toList]; lia
    have hd : text.toList.drop pos = text.getD pos 0 :: text.toList.drop (pos + 1) := by
      rw [List.drop_eq_getElem_cons hlt]
      congr 1
      rw [Array.getD_eq_getD_getElem?, ← Array.getElem?_toList, List.getElem?_eq_getElem hlt, Option.getD_some]
    rw [hd, List.take_succ_cons, List.takeWhile_cons]
    cases hp : p (text.getD pos 0) with
    | true =>
      obtain ⟨s2, e2⟩ := run_ok (text := text) p h n (pos + 1) (found + 1) s1 (by lia)
      refine ⟨s2, ?_⟩
      show Sre.run code text i n (pos + 1) (found + 1) s1 = _
      rw [e2, if_pos rfl, List.length_cons]
      congr 2
      lia
    | false => exact ⟨s1, by rw [if_neg Bool.false_ne_true]; rfl⟩
noncomputable def gF (pc pos : Nat) (out : Bool) (count lm li : Int) : Sre.Frame := { wait := .giveBack, pc := pc, pos := pos, outermost := out, count := count, kept := { lastmark := lm, lastindex := li } }
noncomputable def gb (m : M) (n : Nat) : M :=
  { m with pc := m.pc + 1 + m.code.getD (m.pc + 1) 0, pos := m.pos + n, handed := m.pos + n, weight := m.weight + 1,
           frames := gF m.pc (m.pos + n) m.outermost n m.lastmark m.lastindex :: m.frames }
theorem s_rep {p : Nat → Bool} (ho : m.outcome = none) (ha : m.answer = none) (hp : m.pc < m.code.size) (hw : m.code.getD m.pc 0 = 24) (hmax : m.code.getD (m.pc + 3) 0 = 4294967295)
    (h : ∀ c, OneOk m.code (m.pc + 4) c (p c)) (hlim : m.lim = m.text.size) (hsz : m.text.size ≤ 4294967295) (hpos : m.pos ≤ m.lim) (hin : m.inner = none) (hwt : m.weight ≤ 1000) (n : Nat) (hn : n = ((m.text.toList.drop m.pos).takeWhile p).length) :
    Rch 1 m (if n < m.code.getD (m.pc + 2) 0 then m.say false else gb m n) := .one fun s => by
  rw [step_exec ho ha hp]
  unfold M.exec
  have e0 : (wS m s).word 0 = 24 := hw
  rw [e0, show ops[24]? = some Op.REPEAT_ONE by rfl]
  dsimp only
  have e2 : ({ wS m s with seen := (wS m s).seen.add 24 } : M).word 2 = m.code.getD (m.pc + 2) 0 := rfl
  have e3 : ({ wS m s with seen := (wS m s).seen.add 24 } : M).word 3 = 4294967295 := hmax
  rw [e2, e3]
  have hroom : ((wS m s).lim : Int) - (wS m s).pos = ((m.lim - m.pos : Nat) : Int) := by show (m.lim : Int) - m.pos = _; lia
  rw [hroom]
  have hle : n ≤ m.lim - m.pos := by
    rw [hn, hlim]
    refine Nat.le_trans (List.takeWhile_prefix p).length_le ?_
    rw [List.length_drop, Array.length_toList]
    exact Nat.le_refl _
  by_cases hl : m.code.getD (m.pc + 2) 0 ≤ m.lim - m.pos
  · rw [if_neg (by lia)]
    rw [if_neg Bool.false_ne_true]
    have hmin : min 4294967295 ((m.lim - m.pos : Nat) : Int).toNat = m.lim - m.pos := by lia
    rw [hmin]
    obtain ⟨s1, e1⟩ := run_ok (text := m.text) p h (m.lim - m.pos) m.pos 0 (((wS m s).seen.add 24).add (m.code.getD (m.pc + 4) 0)) (by lia)
    have e1' : Sre.run (wS m s).code (wS m s).text ((wS m s).pc + 4) (m.lim - m.pos) (wS m s).pos 0 (((wS m s).seen.add 24).add (({ wS m s with seen := (wS m s).seen.add 24 } : M).word 4)) = .ok (n, s1) := by
      refine Eq.trans e1 ?_
      rw [Nat.zero_add, List.take_of_length_le (by rw [List.length_drop, Array.length_toList]; lia), ← hn]
    rw [e1']
    dsimp only
    split
    · exact ⟨_, rfl⟩
    · refine ⟨s1, ?_⟩
      have hs : m.inner.isSome = false := by rw [hin]; rfl
      simp only [M.afterRun, M.attempt, M.frame, M.keep, M.word, wS, M.stick, hs, Bool.false_eq_true, if_false]
      rw [if_neg (by show ¬ m.weight + 1 + 0 > 16777216; lia)]
      rfl
  · rw [if_pos (by lia), if_pos (by lia)]
    exact ⟨_, rfl⟩
theorem step_resume {yes : Bool} {f : Sre.Frame} {rest : List Sre.Frame} (ho : m.outcome = none) (ha : m.answer = some yes) (hf : m.frames = f :: rest) (s : Seen) :
    (wS m s).step = (wS { m with answer := none, frames := rest, weight := m.weight - (1 + f.kept.marks.size), pc := f.pc, pos := f.pos, outermost := f.outermost } s).resume f yes := by
  unfold M.step
  have h1 : (wS m s).outcome.isSome = false := by show m.outcome.isSome = false; rw [ho]; rfl
  have h2 : (wS m s).answer = some yes := ha
  have h3 : (wS m s).frames = f :: rest := hf
  rw [if_neg (by rw [h1]; exact Bool.false_ne_true), h2, h3]
  rfl
noncomputable def popd (m : M) (f : Sre.Frame) (rest : List Sre.Frame) : M := { m with answer := none, frames := rest, weight := m.weight - (1 + f.kept.marks.size), pc := f.pc, pos := f.pos, outermost := f.outermost }
theorem r_yes {f : Sre.Frame} {rest : List Sre.Frame} (ho : m.outcome = none) (ha : m.answer = some true) (hf : m.frames = f :: rest) (hw : f.wait = .giveBack ∨ f.wait = .nextStart) :
    Rch 1 m ((popd m f rest).say true) := .one fun s => by
  rw [step_resume ho ha hf]
  unfold M.resume
  rcases hw with hw | hw <;> rw [hw] <;> exact ⟨s, rfl⟩
theorem r_end {yes : Bool} (ho : m.outcome = none) (ha : m.answer = some yes) (hf : m.frames = []) : Rch 1 m { m with outcome := some (if yes then .matched else .failed) } := .one fun s => by
  unfold M.step
  have h1 : (wS m s).outcome.isSome = false := by show m.outcome.isSome = false; rw [ho]; rfl
  have h2 : (wS m s).answer = some yes := ha
  have h3 : (wS m s).frames = [] := hf
  rw [if_neg (by rw [h1]; exact Bool.false_ne_true), h2, h3]
  refine ⟨s, ?_⟩
  unfold wS
  dsimp only
  simp only [ha, hf]
theorem r_giveNone {f : Sre.Frame} {rest : List Sre.Frame} (ho : m.outcome = none) (ha : m.answer = some false) (hf : m.frames = f :: rest) (hw : f.wait = .giveBack) (hk : f.kept.whole = false) (hc : f.count - 1 < m.code.getD (f.pc + 2) 0) :
    Rch 1 m ({ (popd m f rest) with lastmark := f.kept.lastmark, lastindex := f.kept.lastindex }.say false) := .one fun s => by
  rw [step_resume ho ha hf]
  unfold M.resume
  rw [hw]
  dsimp only
  rw [if_neg Bool.false_ne_true]
  have e2 : (wS { m with answer := none, frames := rest, weight := m.weight - (1 + f.kept.marks.size), pc := f.pc, pos := f.pos, outermost := f.outermost } s).word 2 = m.code.getD (f.pc + 2) 0 := rfl
  rw [e2, if_pos hc]
  refine ⟨s, ?_⟩
  unfold M.putBack
  rw [hk]; rfl
theorem r_giveOne {pc pos : Nat} {out : Bool} {count lm li : Int} {rest : List Sre.Frame} (ho : m.outcome = none) (ha : m.answer = some false) (hf : m.frames = gF pc pos out count lm li :: rest)
    (hc : ¬ count - 1 < m.code.getD (pc + 2) 0) (hwt : m.weight ≤ 1000) (hw1 : 1 ≤ m.weight) :
    Rch 1 m { m with answer := none, outermost := out, lastmark := lm, lastindex := li, pc := pc + 1 + m.code.getD (pc + 1) 0, pos := pos - 1, handed := pos - 1, frames := gF pc (pos - 1) out (count - 1) lm li :: rest } := .one fun s => by
  rw [step_resume ho ha hf]
  unfold M.resume
  rw [show (gF pc pos out count lm li).wait = .giveBack from rfl]
  dsimp only
  rw [if_neg Bool.false_ne_true]
  have e2 : (wS { m with answer := none, frames := rest, weight := m.weight - (1 + (gF pc pos out count lm li).kept.marks.size), pc := (gF pc pos out count lm li).pc, pos := (gF pc pos out count lm li).pos, outermost := (gF pc pos out count lm li).outermost } s).word 2 = m.code.getD (pc + 2) 0 := rfl
  rw [e2, if_neg (show ¬ (gF pc pos out count lm li).count - 1 < m.code.getD (pc + 2) 0 from hc)]
  refine ⟨s, ?_⟩
  simp only [M.afterRun, M.attempt, M.frame, M.putBack, M.word, wS, M.stick, gF, Bool.false_eq_true, if_false]
  have hz : (#[] : Array (Option Nat)).size = 0 := rfl
  rw [if_neg (by rw [hz]; lia)]
  have : m.weight - (1 + (#[] : Array (Option Nat)).size) + 1 + (#[] : Array (Option Nat)).size = m.weight := by rw [hz]; lia
  rw [this]
theorem r_giveNone' {pc pos : Nat} {out : Bool} {count lm li : Int} {rest : List Sre.Frame} (ho : m.outcome = none) (ha : m.answer = some false) (hf : m.frames = gF pc pos out count lm li :: rest)
    (hc : count - 1 < m.code.getD (pc + 2) 0) :
    Rch 1 m { m with answer := some false, outermost := out, lastmark := lm, lastindex := li, pc := pc, pos := pos, frames := rest, weight := m.weight - 1 } :=
  r_giveNone ho ha hf rfl rfl hc
theorem s_success (ho : m.outcome = none) (ha : m.answer = none) (hp : m.pc < m.code.size) (hw : m.code.getD m.pc 0 = 1) :
    Rch 1 m (if (m.outermost && ((m.wholeText && m.pos != m.lim) || (m.mustAdvance && m.pos == m.start))) = true then m.say false else ({ m with handed := m.pos } : M).say true) := .one fun s => by
  rw [step_exec ho ha hp]
  unfold M.exec
  have e0 : (wS m s).word 0 = 1 := hw
  rw [e0, show ops[1]? = some Op.SUCCESS by rfl]
  dsimp only
  by_cases h : (m.outermost && ((m.wholeText && m.pos != m.lim) || (m.mustAdvance && m.pos == m.start))) = true
  · rw [if_pos h]
    rw [if_pos (show (({ wS m s with seen := (wS m s).seen.add 1 } : M).outermost && ((({ wS m s with seen := (wS m s).seen.add 1 } : M).wholeText && ({ wS m s with seen := (wS m s).seen.add 1 } : M).pos != ({ wS m s with seen := (wS m s).seen.add 1 } : M).lim) || (({ wS m s with seen := (wS m s).seen.add 1 } : M).mustAdvance && ({ wS m s with seen := (wS m s).seen.add 1 } : M).pos == ({ wS m s with seen := (wS m s).seen.add 1 } : M).start))) = true from h)]
    exact ⟨_, rfl⟩
  · rw [if_neg h]
    rw [if_neg (show ¬ (({ wS m s with seen := (wS m s).seen.add 1 } : M).outermost && ((({ wS m s with seen := (wS m s).seen.add 1 } : M).wholeText && ({ wS m s with seen := (wS m s).seen.add 1 } : M).pos != ({ wS m s with seen := (wS m s).seen.add 1 } : M).lim) || (({ wS m s with seen := (wS m s).seen.add 1 } : M).mustAdvance && ({ wS m s with seen := (wS m s).seen.add 1 } : M).pos == ({ wS m s with seen := (wS m s).seen.add 1 } : M).start))) = true from h)]
    exact ⟨_, rfl⟩
noncomputable def nF (pc pos : Nat) (out : Bool) : Sre.Frame := { wait := .nextStart, pc := pc, pos := pos, outermost := out }
theorem r_next {pc pos : Nat} {out : Bool} {rest : List Sre.Frame} (ho : m.outcome = none) (ha : m.answer = some false) (hf : m.frames = nF pc pos out :: rest) (hfs : m.hasFirstSet = false) (hw1 : 1 ≤ m.weight) (hwt : m.weight ≤ 1000) :
    Rch 1 m (if pos < m.lastStart then { m with answer := none, mustAdvance := false, start := pos + 1, pos := pos + 1, handed := pos + 1, pc := pc, lastmark := -1, lastindex := -1, outermost := false, frames := nF pc (pos + 1) false :: rest }
      else { m with answer := some false, frames := rest, weight := m.weight - 1, pc := pc, pos := pos, outermost := out }) := .one fun s => by
  rw [step_resume ho ha hf]
  unfold M.resume
  rw [show (nF pc pos out).wait = .nextStart from rfl]
  dsimp only
  rw [if_neg Bool.false_ne_true]
  have hz : (#[] : Array (Option Nat)).size = 0 := rfl
  by_cases h : pos < m.lastStart
  · rw [if_pos h]
    rw [if_pos (show (nF pc pos out).pos < (wS { m with answer := none, frames := rest, weight := m.weight - (1 + (nF pc pos out).kept.marks.size), pc := (nF pc pos out).pc, pos := (nF pc pos out).pos, outermost := (nF pc pos out).outermost } s).lastStart from h)]
    refine ⟨s, ?_⟩
    have key : ∀ (x : M) (a : Nat) (b : Bool), x.code = m.code → x.attemptFrom a b = x.attemptAt a b := fun x a b hx => by
      have : x.hasFirstSet = false := by unfold M.hasFirstSet at hfs ⊢; rw [hx]; exact hfs
      unfold M.attemptFrom; rw [this]; rfl
    refine Eq.trans (key _ _ _ rfl) ?_
    unfold M.attemptAt M.attempt
    refine (if_neg (show ¬ (m.weight - (1 + 0) + 1 + 0 > 16777216) by lia)).trans ?_
    have : m.weight - (1 + 0) + 1 + 0 = m.weight := by lia
    show wS { m with answer := none, mustAdvance := false, start := pos + 1, pos := pos + 1, handed := pos + 1, pc := pc, lastmark := -1, lastindex := -1, outermost := false, frames := nF pc (pos + 1) false :: rest, weight := m.weight - (1 + 0) + 1 + 0 } s = _
    rw [this]
  · rw [if_neg h]
    rw [if_neg (show ¬ (nF pc pos out).pos < (wS { m with answer := none, frames := rest, weight := m.weight - (1 + (nF pc pos out).kept.marks.size), pc := (nF pc pos out).pc, pos := (nF pc pos out).pos, outermost := (nF pc pos out).outermost } s).lastStart from h)]
    exact ⟨s, rfl⟩
noncomputable def Ends (n : Nat) (a : M) (P : M → Prop) : Prop := ∃ b, Rch n a b ∧ P b
theorem Ends.step {n k : Nat} {a b : M} {P : M → Prop} (x : Rch n a b) (y : Ends k b P) : Ends (n + k) a P := let ⟨c, r, p⟩ := y; ⟨c, x.trans r, p⟩
theorem Ends.le {n k : Nat} {a : M} {P : M → Prop} (h : n ≤ k) (y : Ends n a P) : Ends k a P := let ⟨c, r, p⟩ := y; ⟨c, r.le h, p⟩
theorem fail_all {pc : Nat} : ∀ (d : Nat) (m : M) (pos : Nat) (out : Bool), m.lastStart - pos ≤ d → m.outcome = none → m.answer = some false → m.frames = [nF pc pos out] → m.hasFirstSet = false → 1 ≤ m.weight → m.weight ≤ 1000 →
    pc < m.code.size → m.code.getD pc 0 = 6 → m.code.getD (pc + 1) 0 = 0 → Ends (3 * d + 2) m fun b => b.outcome = some .failed
  | 0, m, pos, out, hd, ho, ha, hf, hfs, hw1, hwt, hp, hc, hc2 => by
    have h1 := r_next ho ha hf hfs hw1 hwt
    rw [if_neg (by lia)] at h1
    exact Ends.le (by lia) (.step h1 ⟨_, r_end (yes := false) ho rfl rfl, rfl⟩)
  | d + 1, m, pos, out, hd, ho, ha, hf, hfs, hw1, hwt, hp, hc, hc2 => by
    have h1 := r_next ho ha hf hfs hw1 hwt
    by_cases h : pos < m.lastStart
    · rw [if_pos h] at h1
      have h2 := s_at0 (m := { m with answer := none, mustAdvance := false, start := pos + 1, pos := pos + 1, handed := pos + 1, pc := pc, lastmark := -1, lastindex := -1, outermost := false, frames := [nF pc (pos + 1) false] }) ho rfl hp hc hc2
      rw [if_neg (Nat.succ_ne_zero _)] at h2
      have h3 := fail_all d (({ m with answer := none, mustAdvance := false, start := pos + 1, pos := pos + 1, handed := pos + 1, pc := pc, lastmark := -1, lastindex := -1, outermost := false, frames := [nF pc (pos + 1) false] } : M).say false) (pos + 1) false
        (by show m.lastStart - (pos + 1) ≤ d; lia) ho rfl rfl hfs hw1 hwt hp hc hc2
      exact Ends.le (by lia) (.step h1 (.step h2 h3))
    · rw [if_neg h] at h1
      exact Ends.le (by lia) (.step h1 ⟨_, r_end (yes := false) ho rfl rfl, rfl⟩)
end
noncomputable def c55 : Array Nat := #[14, 4, 0, 1, 4294967295, 6, 0, 24, 9, 0, 4294967295, 13, 4, 8, 12, 0, 1, 17, 0, 24, 19, 1, 4294967295, 13, 14, 21, 9, 0, 671092736, 0, 0, 0, 0, 0, 0, 8, 12, 0, 1, 17, 1, 1]
theorem cat12 (c : Nat) : category 12 c = .ok (Unicode.isSpace c) := by
  unfold category
  rw [show (12 : Nat) / 2 = 6 from rfl, show ((12 : Nat) % 2 == 1) = false from rfl]
  dsimp only
  cases Unicode.isSpace c <;> rfl
section
variable {code : Array Nat} {c fuel i : Nat} {yes : Bool} {s : Seen}
theorem in_at {o : Op} {x : Nat} {m : Option Op → Except String (Bool × Seen)} {r : Nat → Except String (Bool × Seen)} (hm : inSet code c (fuel + 1) i yes s = m ops[code.getD i 0]?) (h : code.getD i 0 = x) (ho : ops[x]? = some o) (k : m (some o) = r (code.getD i 0)) : inSet code c (fuel + 1) i yes s = r x := by
  rw [hm, ← h, ← k, h, ho]
theorem is_end (h : code.getD i 0 = 0) : inSet code c (fuel + 1) i yes s = .ok (!yes, s.add 0) :=
  in_at (o := .FAILURE) (m := fun z => PySem.Sre.inSet.match_1 (motive := fun _ => _) z _ _ _ _ _ _ _ _ _) (r := fun x => .ok (!yes, s.add x)) rfl h rfl rfl
theorem is_neg (h : code.getD i 0 = 21) : inSet code c (fuel + 1) i yes s = inSet code c fuel (i + 1) (!yes) (s.add 21) :=
  in_at (o := .NEGATE) (m := fun z => PySem.Sre.inSet.match_1 (motive := fun _ => _) z _ _ _ _ _ _ _ _ _) (r := fun x => inSet code c fuel (i + 1) (!yes) (s.add x)) rfl h rfl rfl
theorem is_lit (h : code.getD i 0 = 16) : inSet code c (fuel + 1) i yes s = if (c == code.getD (i + 1) 0) = true then .ok (yes, s.add 16) else inSet code c fuel (i + 2) yes (s.add 16) :=
  in_at (o := .LITERAL) (m := fun z => PySem.Sre.inSet.match_1 (motive := fun _ => _) z _ _ _ _ _ _ _ _ _) (r := fun x => if (c == code.getD (i + 1) 0) = true then .ok (yes, s.add x) else inSet code c fuel (i + 2) yes (s.add x)) rfl h rfl rfl
theorem is_cs (h : code.getD i 0 = 9) : inSet code c (fuel + 1) i yes s = if (decide (c < 256) && (code.getD (i + (1 + c / 32)) 0).testBit (c % 32)) = true then .ok (yes, s.add 9) else inSet code c fuel (i + 9) yes (s.add 9) :=
  in_at (o := .CHARSET) (m := fun z => PySem.Sre.inSet.match_1 (motive := fun _ => _) z _ _ _ _ _ _ _ _ _) (r := fun x => if (decide (c < 256) && (code.getD (i + (1 + c / 32)) 0).testBit (c % 32)) = true then .ok (yes, s.add x) else inSet code c fuel (i + 9) yes (s.add x)) rfl h rfl rfl
theorem is_space (h : code.getD i 0 = 8) (h' : code.getD (i + 1) 0 = 12) : inSet code c (fuel + 1) i yes s = if Unicode.isSpace c = true then .ok (yes, (s.add 8).add (55 + 12)) else inSet code c fuel (i + 2) yes ((s.add 8).add (55 + 12)) := by
  refine (in_at (o := .CATEGORY) (m := fun z => PySem.Sre.inSet.match_1 (motive := fun _ => _) z _ _ _ _ _ _ _ _ _) (r := fun x => (category (code.getD (i + 1) 0) c >>= fun b => if b = true then pure (yes, (s.add x).add (55 + code.getD (i + 1) 0)) else inSet code c fuel (i + 2) yes ((s.add x).add (55 + code.getD (i + 1) 0)))) rfl h rfl rfl).trans ?_
  rw [h', cat12]
  cases Unicode.isSpace c <;> rfl
end
theorem acc_in {code : Array Nat} {i c : Nat} {r : Bool} (h : code.getD i 0 = 13) (k : ∀ s, ∃ s', inSet code c code.size (i + 2) true s = .ok (r, s')) : OneOk code i c r := fun s => by
  unfold accepts
  rw [h, show ops[13]? = some Op.IN by rfl]
  exact k s
theorem space_ok {code : Array Nat} {i : Nat} (h0 : code.getD i 0 = 13) (h2 : code.getD (i + 2) 0 = 8) (h3 : code.getD (i + 3) 0 = 12) (h4 : code.getD (i + 4) 0 = 0) (n : Nat) (hs : code.size = n + 2) (c : Nat) : OneOk code i c (Unicode.isSpace c) := acc_in h0 fun s => by
  rw [hs, is_space h2 h3]
  cases Unicode.isSpace c with
  | true => exact ⟨_, rfl⟩
  | false => rw [if_neg Bool.false_ne_true, is_end h4]; exact ⟨_, rfl⟩
theorem cs3 : ∀ c, c < 256 → ((#[0, 671092736, 0, 0, 0, 0, 0, 0] : Array Nat).getD (c / 32) 0).testBit (c % 32) = (c == 44 || c == 59 || c == 61) := by decide +kernel
theorem sep55 (c : Nat) : OneOk c55 23 c (!isSep c) := acc_in rfl fun s => by
  rw [show c55.size = 39 + 3 from rfl, is_neg rfl, is_cs rfl]
  have hcs : (decide (c < 256) && (c55.getD (23 + 2 + 1 + (1 + c / 32)) 0).testBit (c % 32)) = (c == 44 || c == 59 || c == 61) := by
    by_cases h : c < 256
    · rw [decide_eq_true h, Bool.true_and, ← cs3 c h]
      have : c / 32 < 8 := by lia
      have e : ∀ k, k < 8 → c55.getD (23 + 2 + 1 + (1 + k)) 0 = (#[0, 671092736, 0, 0, 0, 0, 0, 0] : Array Nat).getD k 0 := by decide
      rw [e _ this]
    · rw [decide_eq_false h, Bool.false_and]
      have h1 : (c == 44) = false := beq_eq_false_iff_ne.mpr (by lia)
      have h2 : (c == 59) = false := beq_eq_false_iff_ne.mpr (by lia)
      have h3 : (c == 61) = false := beq_eq_false_iff_ne.mpr (by lia)
      rw [h1, h2, h3]; rfl
  rw [hcs]
  unfold isSep
  cases h : (c == 44 || c == 59 || c == 61) with
  | true => exact ⟨_, rfl⟩
  | false =>
    rw [if_neg Bool.false_ne_true, is_space rfl rfl]
    cases Unicode.isSpace c with
    | true => exact ⟨_, rfl⟩
    | false => rw [if_neg Bool.false_ne_true, is_end rfl]; exact ⟨_, rfl⟩
noncomputable def B (code text : Array Nat) (wh : Bool) (ls : Nat) (pc pos hd : Nat) (mk : Array (Option Nat)) (lm li : Int) (fr : List Sre.Frame) (wt : Nat) (an : Option Bool) : M :=
  { code := code, text := text, lim := text.size, start := 0, lastStart := ls, wholeText := wh, pc := pc, pos := pos, handed := hd, marks := mk, lastmark := lm, lastindex := li, frames := fr, weight := wt, answer := an }
section
variable {code text : Array Nat} {wh : Bool} {ls : Nat} {pc pos hd : Nat} {mk : Array (Option Nat)} {lm li : Int} {fr : List Sre.Frame} {wt : Nat}
theorem B_at0 (hp : pc < code.size) (hw : code.getD pc 0 = 6) (hk : code.getD (pc + 1) 0 = 0) : Rch 1 (B code text wh ls pc 0 hd mk lm li fr wt none) (B code text wh ls (pc + 2) 0 hd mk lm li fr wt none) :=
  s_at0 (m := B code text wh ls pc 0 hd mk lm li fr wt none) rfl rfl hp hw hk
theorem B_mark (hp : pc < code.size) (hw : code.getD pc 0 = 17) (i : Nat) (hi : code.getD (pc + 1) 0 = i) (hlm : (i : Int) = lm + 1) :
    Rch 1 (B code text wh ls pc pos hd mk lm li fr wt none) (B code text wh ls (pc + 2) pos hd (mk.setIfInBounds i (some pos)) i (if i % 2 == 1 then ((i / 2 + 1 : Nat) : Int) else li) fr wt none) := by
  have h := s_mark (m := B code text wh ls pc pos hd mk lm li fr wt none) rfl rfl hp hw
  have e : (B code text wh ls pc pos hd mk lm li fr wt none).mark (code.getD (pc + 1) 0) = B code text wh ls (pc + 2) pos hd (mk.setIfInBounds i (some pos)) i (if i % 2 == 1 then ((i / 2 + 1 : Nat) : Int) else li) fr wt none := by
    rw [hi]
    unfold M.mark
    have hc : (i : Int) ≤ (B code text wh ls pc pos hd mk lm li fr wt none).lastmark + 1 := by show (i : Int) ≤ lm + 1; lia
    have hm : max (B code text wh ls pc pos hd mk lm li fr wt none).lastmark (i : Int) = i := by show max lm (i : Int) = i; lia
    dsimp only
    rw [if_pos hc, hm]
    rfl
  exact e ▸ h
theorem B_lit (hp : pc < code.size) (hw : code.getD pc 0 = 16) (h : pos < text.size) (hc : text.getD pos 0 = code.getD (pc + 1) 0) :
    Rch 1 (B code text wh ls pc pos hd mk lm li fr wt none) (B code text wh ls (pc + 2) (pos + 1) hd mk lm li fr wt none) := by
  have := s_lit (m := B code text wh ls pc pos hd mk lm li fr wt none) rfl rfl hp hw
  exact this.ifp ⟨h, hc⟩
theorem B_litNo (hp : pc < code.size) (hw : code.getD pc 0 = 16) (h : ¬ (pos < text.size ∧ text.getD pos 0 = code.getD (pc + 1) 0)) :
    Rch 1 (B code text wh ls pc pos hd mk lm li fr wt none) (B code text wh ls pc pos hd mk lm li fr wt (some false)) := by
  have := s_lit (m := B code text wh ls pc pos hd mk lm li fr wt none) rfl rfl hp hw
  exact this.ifn h
theorem B_rep {p : Nat → Bool} (hp : pc < code.size) (hw : code.getD pc 0 = 24) (hmax : code.getD (pc + 3) 0 = 4294967295) (h : ∀ c, OneOk code (pc + 4) c (p c)) (hsz : text.size ≤ 4294967295) (hpos : pos ≤ text.size) (hwt : wt ≤ 1000)
    (n : Nat) (hn : n = ((text.toList.drop pos).takeWhile p).length) (hle : code.getD (pc + 2) 0 ≤ n) :
    Rch 1 (B code text wh ls pc pos hd mk lm li fr wt none) (B code text wh ls (pc + 1 + code.getD (pc + 1) 0) (pos + n) (pos + n) mk lm li (gF pc (pos + n) true n lm li :: fr) (wt + 1) none) := by
  have := s_rep (m := B code text wh ls pc pos hd mk lm li fr wt none) rfl rfl hp hw hmax h rfl hsz hpos rfl hwt n hn
  exact this.ifn (show ¬ n < code.getD (pc + 2) 0 by lia)
theorem B_repNo {p : Nat → Bool} (hp : pc < code.size) (hw : code.getD pc 0 = 24) (hmax : code.getD (pc + 3) 0 = 4294967295) (h : ∀ c, OneOk code (pc + 4) c (p c)) (hsz : text.size ≤ 4294967295) (hpos : pos ≤ text.size) (hwt : wt ≤ 1000)
    (n : Nat) (hn : n = ((text.toList.drop pos).takeWhile p).length) (hle : n < code.getD (pc + 2) 0) :
    Rch 1 (B code text wh ls pc pos hd mk lm li fr wt none) (B code text wh ls pc pos hd mk lm li fr wt (some false)) := by
  have := s_rep (m := B code text wh ls pc pos hd mk lm li fr wt none) rfl rfl hp hw hmax h rfl hsz hpos rfl hwt n hn
  exact this.ifp (show n < code.getD (pc + 2) 0 from hle)
theorem B_success (hp : pc < code.size) (hw : code.getD pc 0 = 1) (hwh : wh = false ∨ pos = text.size) : Rch 1 (B code text wh ls pc pos hd mk lm li fr wt none) (B code text wh ls pc pos pos mk lm li fr wt (some true)) := by
  have := s_success (m := B code text wh ls pc pos hd mk lm li fr wt none) rfl rfl hp hw
  have hn : ¬ ((true && ((wh && pos != text.size) || (false && pos == 0))) = true) := by
    rcases hwh with rfl | rfl <;> simp
  exact this.ifn hn
theorem B_successNo (hp : pc < code.size) (hw : code.getD pc 0 = 1) (hwh : wh = true) (hne : pos ≠ text.size) : Rch 1 (B code text wh ls pc pos hd mk lm li fr wt none) (B code text wh ls pc pos hd mk lm li fr wt (some false)) := by
  have := s_success (m := B code text wh ls pc pos hd mk lm li fr wt none) rfl rfl hp hw
  have hn : (true && ((wh && pos != text.size) || (false && pos == 0))) = true := by
    rw [hwh]; simp [hne]
  exact this.ifp hn
theorem B_yesG {pc' pos' : Nat} {n lm' li' : Int} : Rch 1 (B code text wh ls pc pos hd mk lm li (gF pc' pos' true n lm' li' :: fr) (wt + 1) (some true)) (B code text wh ls pc' pos' hd mk lm li fr wt (some true)) :=
  r_yes (m := B code text wh ls pc pos hd mk lm li (gF pc' pos' true n lm' li' :: fr) (wt + 1) (some true)) rfl rfl rfl (.inl rfl)
theorem B_yesN {pc' pos' : Nat} : Rch 1 (B code text wh ls pc pos hd mk lm li (nF pc' pos' true :: fr) (wt + 1) (some true)) (B code text wh ls pc' pos' hd mk lm li fr wt (some true)) :=
  r_yes (m := B code text wh ls pc pos hd mk lm li (nF pc' pos' true :: fr) (wt + 1) (some true)) rfl rfl rfl (.inr rfl)
theorem B_noG {pc' pos' : Nat} {n lm' li' : Int} (hc : n - 1 < code.getD (pc' + 2) 0) : Rch 1 (B code text wh ls pc pos hd mk lm li (gF pc' pos' true n lm' li' :: fr) (wt + 1) (some false)) (B code text wh ls pc' pos' hd mk lm' li' fr wt (some false)) :=
  r_giveNone' (m := B code text wh ls pc pos hd mk lm li (gF pc' pos' true n lm' li' :: fr) (wt + 1) (some false)) rfl rfl rfl hc
theorem B_giveG {pc' pos' : Nat} {n lm' li' : Int} (hc : ¬ n - 1 < code.getD (pc' + 2) 0) (hwt : wt + 1 ≤ 1000) : Rch 1 (B code text wh ls pc pos hd mk lm li (gF pc' pos' true n lm' li' :: fr) (wt + 1) (some false))
    (B code text wh ls (pc' + 1 + code.getD (pc' + 1) 0) (pos' - 1) (pos' - 1) mk lm' li' (gF pc' (pos' - 1) true (n - 1) lm' li' :: fr) (wt + 1) none) :=
  r_giveOne (m := B code text wh ls pc pos hd mk lm li (gF pc' pos' true n lm' li' :: fr) (wt + 1) (some false)) rfl rfl rfl hc hwt (Nat.le_add_left _ _)
theorem B_failN {pc' : Nat} (hls : ls ≤ text.size) (hfs : (B code text wh ls pc pos hd mk lm li [nF pc' 0 true] (wt + 1) (some false)).hasFirstSet = false) (hwt : wt + 1 ≤ 1000) (hp : pc' < code.size) (hw : code.getD pc' 0 = 6) (hk : code.getD (pc' + 1) 0 = 0) :
    Ends (3 * text.size + 2) (B code text wh ls pc pos hd mk lm li [nF pc' 0 true] (wt + 1) (some false)) fun b => b.outcome = some .failed :=
  fail_all text.size _ 0 true (by show ls - 0 ≤ text.size; lia) rfl rfl rfl hfs (Nat.le_add_left _ _) hwt hp hw hk
end
structure Found (m : M) (start handed : Nat) (mks : Array (Option Nat)) (lastmark : Int) : Prop where
  oc : m.outcome = some .matched
  st : m.start = start
  hd : m.handed = handed
  mks : m.marks = mks
  lm : m.lastmark = lastmark
theorem start55 {text : Array Nat} (h : 1 ≤ text.size) : ∃ s, forSearch c55 text 1 0 text.size false = wS (B c55 text false text.size 5 0 0 #[none, none] (-1) (-1) [nF 5 0 true] 1 none) s := by
  unfold forSearch
  dsimp only
  rw [if_neg (by
    show ¬ ((decide (0 > text.size) || decide (text.size - 0 < 1)) = true)
    have h1 : ¬ 0 > text.size := Nat.not_lt_zero _
    have h2 : ¬ text.size - 0 < 1 := by lia
    rw [decide_eq_false h1, decide_eq_false h2]; exact Bool.false_ne_true)]
  unfold M.attemptFrom
  rw [if_pos (by rfl)]
  exact ⟨_, rfl⟩
theorem p55_found {text : Array Nat} (hsz : text.size ≤ 4294967295) {a t : Nat} (ha : a = (text.toList.takeWhile Unicode.isSpace).length) (ht : t = ((text.toList.drop a).takeWhile fun c => !isSep c).length) (ht0 : 0 < t) :
    Ends 20 (B c55 text false text.size 5 0 0 #[none, none] (-1) (-1) [nF 5 0 true] 1 none) fun m => Found m 0 (a + t) #[some a, some (a + t)] 1 := by
  have hle : a ≤ text.size := by rw [ha, ← Array.length_toList]; exact (List.takeWhile_prefix _).length_le
  refine Ends.le (n := 1 + (1 + (1 + (1 + (1 + (1 + (1 + (1 + (1 + 1))))))))) (by decide) ?_
  refine .step (B_at0 (by decide) rfl rfl) ?_
  refine .step (B_rep (p := Unicode.isSpace) (by decide) rfl rfl (space_ok rfl rfl rfl rfl 40 rfl) hsz (Nat.zero_le _) (by decide) a ha (Nat.zero_le _)) ?_
  rw [Nat.zero_add]
  refine .step (B_mark (by decide) rfl 0 rfl rfl) ?_
  refine .step (B_rep (p := fun c => !isSep c) (by decide) rfl rfl sep55 hsz hle (by decide) t ht (show 1 ≤ t from ht0)) ?_
  refine .step (B_mark (by decide) rfl 1 rfl rfl) ?_
  refine .step (B_success (by decide) rfl (.inl rfl)) ?_
  refine .step B_yesG (.step B_yesG (.step B_yesN ⟨_, r_end rfl rfl rfl, ⟨rfl, rfl, rfl, rfl, rfl⟩⟩))
theorem p55_none {text : Array Nat} (hsz : text.size ≤ 4294967295) (ha : (text.toList.takeWhile Unicode.isSpace).length = 0) (ht : (text.toList.takeWhile fun c => !isSep c).length = 0) :
    Ends (3 * text.size + 10) (B c55 text false text.size 5 0 0 #[none, none] (-1) (-1) [nF 5 0 true] 1 none) fun m => m.outcome = some .failed := by
  refine Ends.le (n := 1 + (1 + (1 + (1 + (1 + (3 * text.size + 2)))))) (by lia) ?_
  refine .step (B_at0 (by decide) rfl rfl) ?_
  refine .step (B_rep (p := Unicode.isSpace) (by decide) rfl rfl (space_ok rfl rfl rfl rfl 40 rfl) hsz (Nat.zero_le _) (by decide) 0 ha.symm (Nat.zero_le _)) ?_
  refine .step (B_mark (by decide) rfl 0 rfl rfl) ?_
  refine .step (B_repNo (p := fun c => !isSep c) (by decide) rfl rfl sep55 hsz (Nat.zero_le _) (by decide) 0 ht.symm (by decide)) ?_
  refine .step (B_noG (by decide)) ?_
  exact B_failN (Nat.le_refl _) rfl (by decide) (by decide) rfl rfl
noncomputable def c65 : Array Nat := #[14, 4, 0, 1, 4294967295, 6, 0, 24, 9, 0, 4294967295, 13, 4, 8, 12, 0, 1, 16, 61, 24, 9, 0, 4294967295, 13, 4, 8, 12, 0, 1, 17, 0, 24, 14, 0, 4294967295, 13, 9, 21, 8, 12, 16, 59, 16, 44, 0, 1, 17, 1, 1]
theorem val65 (c : Nat) : OneOk c65 35 c (!isValEnd c) := acc_in rfl fun s => by
  rw [show c65.size = 44 + 5 from rfl, is_neg rfl, is_space rfl rfl]
  unfold isValEnd
  cases h : Unicode.isSpace c with
  | true => rw [if_pos rfl, Bool.or_true]; exact ⟨_, rfl⟩
  | false =>
    rw [if_neg Bool.false_ne_true, is_lit rfl]
    by_cases h1 : c = 59
    · subst h1; exact ⟨_, rfl⟩
    · rw [if_neg (show ¬ ((c == c65.getD (35 + 2 + 1 + 2 + 1) 0) = true) from fun q => h1 (beq_iff_eq.mp q)), is_lit rfl]
      by_cases h2 : c = 44
      · subst h2; exact ⟨_, rfl⟩
      · rw [if_neg (show ¬ ((c == c65.getD (35 + 2 + 1 + 2 + 2 + 1) 0) = true) from fun q => h2 (beq_iff_eq.mp q)), is_end rfl]
        have e1 : (c == 59) = false := beq_eq_false_iff_ne.mpr h1
        have e2 : (c == 44) = false := beq_eq_false_iff_ne.mpr h2
        rw [e1, e2]
        exact ⟨_, rfl⟩
theorem start65 {text : Array Nat} (h : 1 ≤ text.size) : ∃ s, forSearch c65 text 1 0 text.size false = wS (B c65 text false text.size 5 0 0 #[none, none] (-1) (-1) [nF 5 0 true] 1 none) s := by
  unfold forSearch
  dsimp only
  rw [if_neg (by
    show ¬ ((decide (0 > text.size) || decide (text.size - 0 < 1)) = true)
    have h1 : ¬ 0 > text.size := Nat.not_lt_zero _
    have h2 : ¬ text.size - 0 < 1 := by lia
    rw [decide_eq_false h1, decide_eq_false h2]; exact Bool.false_ne_true)]
  unfold M.attemptFrom
  rw [if_pos (by rfl)]
  exact ⟨_, rfl⟩
theorem noBlank_take {l : List Nat} (h : noBlank l = true) : (l.takeWhile Unicode.isSpace).length = 0 := by
  cases l with
  | nil => rfl
  | cons c r =>
    unfold noBlank at h
    rw [Bool.not_eq_true'] at h
    rw [List.takeWhile_cons, h]; rfl
theorem getD_at {text : Array Nat} {k c : Nat} {r : List Nat} (h : text.toList.drop k = c :: r) : k < text.size ∧ text.getD k 0 = c := by
  have hlt : k < text.toList.length := by
    rcases Nat.lt_or_ge k text.toList.length with h' | h'
    · exact h'
    · rw [List.drop_eq_nil_of_le h'] at h; cases h
  have hd := List.drop_eq_getElem_cons hlt
  rw [h] at hd
  refine ⟨by rw [← Array.length_toList]; exact hlt, ?_⟩
  rw [Array.getD_eq_getD_getElem?, ← Array.getElem?_toList, List.getElem?_eq_getElem hlt, Option.getD_some]
  exact (List.cons.inj hd).1.symm
theorem p65_found {text : Array Nat} (hsz : text.size ≤ 4294967295) {r : List Nat} (hl : text.toList = 61 :: r) (hr : noBlank r = true) {t : Nat} (ht : t = (r.takeWhile fun c => !isValEnd c).length) :
    Ends 20 (B c65 text false text.size 5 0 0 #[none, none] (-1) (-1) [nF 5 0 true] 1 none) fun m => Found m 0 (1 + t) #[some 1, some (1 + t)] 1 := by
  have h61 : text.toList.drop 0 = 61 :: r := hl
  have hd1 : text.toList.drop 1 = r := by rw [hl]; rfl
  obtain ⟨h0, hc⟩ := getD_at h61
  have hsp : (text.toList.takeWhile Unicode.isSpace).length = 0 := by rw [hl]; rfl
  refine Ends.le (n := 1 + (1 + (1 + (1 + (1 + (1 + (1 + (1 + (1 + (1 + (1 + (1 + 1)))))))))))) (by decide) ?_
  refine .step (B_at0 (by decide) rfl rfl) ?_
  refine .step (B_rep (p := Unicode.isSpace) (by decide) rfl rfl (space_ok rfl rfl rfl rfl 47 rfl) hsz (Nat.zero_le _) (by decide) 0 hsp.symm (Nat.zero_le _)) ?_
  refine .step (B_lit (by decide) rfl h0 hc) ?_
  refine .step (B_rep (p := Unicode.isSpace) (by decide) rfl rfl (space_ok rfl rfl rfl rfl 47 rfl) hsz h0 (by decide) 0 (by show 0 = (List.takeWhile _ (text.toList.drop 1)).length; rw [hd1]; exact (noBlank_take hr).symm) (Nat.zero_le _)) ?_
  refine .step (B_mark (by decide) rfl 0 rfl rfl) ?_
  refine .step (B_rep (p := fun c => !isValEnd c) (by decide) rfl rfl val65 hsz h0 (by decide) t (by show t = (List.takeWhile _ (text.toList.drop 1)).length; rw [hd1]; exact ht) (Nat.zero_le _)) ?_
  refine .step (B_mark (by decide) rfl 1 rfl rfl) ?_
  refine .step (B_success (by decide) rfl (.inl rfl)) ?_
  refine .step B_yesG (.step B_yesG (.step B_yesG (.step B_yesN ⟨_, r_end rfl rfl rfl, ⟨rfl, rfl, rfl, rfl, rfl⟩⟩)))
noncomputable def c60 : Array Nat := #[14, 4, 0, 3, 4294967295, 6, 0, 24, 9, 0, 4294967295, 13, 4, 8, 12, 0, 1, 16, 61, 24, 9, 0, 4294967295, 13, 4, 8, 12, 0, 1, 16, 34, 17, 0, 24, 12, 0, 4294967295, 13, 7, 21, 16, 34, 16, 92, 0, 1, 23, 19, 0, 4294967295, 16, 92, 2, 24, 12, 0, 4294967295, 13, 7, 21, 16, 34, 16, 92, 0, 1, 18, 17, 1, 16, 34, 1]
theorem quo60 (c : Nat) : OneOk c60 37 c (c != 34 && c != 92) := acc_in rfl fun s => by
  rw [show c60.size = 68 + 4 from rfl, is_neg rfl, is_lit rfl]
  by_cases h1 : c = 34
  · subst h1; exact ⟨_, rfl⟩
  · rw [if_neg (show ¬ ((c == c60.getD (37 + 2 + 1 + 1) 0) = true) from fun q => h1 (beq_iff_eq.mp q)), is_lit rfl]
    by_cases h2 : c = 92
    · subst h2; exact ⟨_, rfl⟩
    · rw [if_neg (show ¬ ((c == c60.getD (37 + 2 + 1 + 2 + 1) 0) = true) from fun q => h2 (beq_iff_eq.mp q)), is_end rfl]
      have e1 : (c != 34) = true := by simpa using h1
      have e2 : (c != 92) = true := by simpa using h2
      rw [e1, e2]
      exact ⟨_, rfl⟩
theorem start60 {text : Array Nat} (h : 3 ≤ text.size) : ∃ s, forSearch c60 text 1 0 text.size false = wS (B c60 text false (text.size - 2) 5 0 0 #[none, none] (-1) (-1) [nF 5 0 true] 1 none) s := by
  unfold forSearch
  dsimp only
  rw [if_neg (by
    show ¬ ((decide (0 > text.size) || decide (text.size - 0 < 3)) = true)
    have h1 : ¬ 0 > text.size := Nat.not_lt_zero _
    have h2 : ¬ text.size - 0 < 3 := by lia
    rw [decide_eq_false h1, decide_eq_false h2]; exact Bool.false_ne_true)]
  have hm : max 0 (text.size - 2) = text.size - 2 := by lia
  unfold M.attemptFrom
  rw [if_pos (by rfl), ← hm]
  exact ⟨_, rfl⟩
noncomputable def Z (text : Array Nat) (ls pc pos hd : Nat) (mk : Array (Option Nat)) (lm li : Int) (lp : Array Loop) (inn : Option Nat) (fr : List Sre.Frame) (wt : Nat) (an : Option Bool) : M :=
  { B c60 text false ls pc pos hd mk lm li fr wt an with loops := lp, inner := inn }
noncomputable def zClose (P : Nat) : Sre.Frame := { wait := .closeLoop, pc := 46, pos := P, outermost := true, loop := 0 }
noncomputable def zMore (P k : Nat) : Sre.Frame := { wait := .maxMore, pc := 67, pos := P, outermost := true, loop := 0, count := 0, kept := { lastmark := 0, lastindex := -1, whole := true, marks := #[some k] }, began := none }
noncomputable def zTail (P : Nat) : Sre.Frame := { wait := .maxTail, pc := 67, pos := P, outermost := true, loop := 0, count := 0, kept := { lastmark := 0, lastindex := -1 } }
section
variable {text : Array Nat} {ls P k : Nat} {fr : List Sre.Frame}
theorem z1 : Rch 1 (Z text ls 46 P P #[some k, none] 0 (-1) #[] none fr 4 none) (Z text ls 66 P P #[some k, none] 0 (-1) #[{ pc := 46, outer := none }] (some 0) (zClose P :: fr) 5 none) := .one fun s => ⟨_, rfl⟩
theorem z2 : Rch 1 (Z text ls 66 P P #[some k, none] 0 (-1) #[{ pc := 46, outer := none }] (some 0) (zClose P :: fr) 5 none)
    (Z text ls 50 P P #[some k, none] 0 (-1) #[{ pc := 46, count := 0, began := some P, outer := none }] (some 0) (zMore P k :: zClose P :: fr) 7 none) := .one fun s => ⟨_, rfl⟩
theorem z3 (h : text.getD P 0 ≠ 92) : Rch 1 (Z text ls 50 P P #[some k, none] 0 (-1) #[{ pc := 46, count := 0, began := some P, outer := none }] (some 0) (zMore P k :: zClose P :: fr) 7 none)
    (Z text ls 50 P P #[some k, none] 0 (-1) #[{ pc := 46, count := 0, began := some P, outer := none }] (some 0) (zMore P k :: zClose P :: fr) 7 (some false)) := by
  have := s_lit (m := Z text ls 50 P P #[some k, none] 0 (-1) #[{ pc := 46, count := 0, began := some P, outer := none }] (some 0) (zMore P k :: zClose P :: fr) 7 none) rfl rfl (by show 50 < c60.size; decide) rfl
  exact this.ifn fun q => h q.2
theorem z4 : Rch 1 (Z text ls 50 P P #[some k, none] 0 (-1) #[{ pc := 46, count := 0, began := some P, outer := none }] (some 0) (zMore P k :: zClose P :: fr) 7 (some false))
    (Z text ls 67 P P #[some k, none] 0 (-1) #[{ pc := 46, count := -1, began := none, outer := none }] none (zTail P :: zClose P :: fr) 6 none) := .one fun s => ⟨_, rfl⟩
theorem z5 : Rch 1 (Z text ls 67 P P #[some k, none] 0 (-1) #[{ pc := 46, count := -1, began := none, outer := none }] none (zTail P :: zClose P :: fr) 6 none)
    (Z text ls 69 P P #[some k, some P] 1 1 #[{ pc := 46, count := -1, began := none, outer := none }] none (zTail P :: zClose P :: fr) 6 none) := by
  have h := s_mark (m := Z text ls 67 P P #[some k, none] 0 (-1) #[{ pc := 46, count := -1, began := none, outer := none }] none (zTail P :: zClose P :: fr) 6 none) rfl rfl (by show 67 < c60.size; decide) rfl
  have e : (Z text ls 67 P P #[some k, none] 0 (-1) #[{ pc := 46, count := -1, began := none, outer := none }] none (zTail P :: zClose P :: fr) 6 none).mark 1 = Z text ls 69 P P #[some k, some P] 1 1 #[{ pc := 46, count := -1, began := none, outer := none }] none (zTail P :: zClose P :: fr) 6 none := by
    unfold M.mark
    have hm : max (Z text ls 67 P P #[some k, none] 0 (-1) #[{ pc := 46, count := -1, began := none, outer := none }] none (zTail P :: zClose P :: fr) 6 none).lastmark ((1 : Nat) : Int) = 1 := by show max (0 : Int) 1 = 1; decide
    dsimp only
    have hc : ((1 : Nat) : Int) ≤ (Z text ls 67 P P #[some k, none] 0 (-1) #[{ pc := 46, count := -1, began := none, outer := none }] none (zTail P :: zClose P :: fr) 6 none).lastmark + 1 := by show ((1 : Nat) : Int) ≤ (0 : Int) + 1; decide
    rw [if_pos hc, hm]
    rfl
  exact e ▸ h
theorem z6 (h : P < text.size) (hc : text.getD P 0 = 34) : Rch 1 (Z text ls 69 P P #[some k, some P] 1 1 #[{ pc := 46, count := -1, began := none, outer := none }] none (zTail P :: zClose P :: fr) 6 none)
    (Z text ls 71 (P + 1) P #[some k, some P] 1 1 #[{ pc := 46, count := -1, began := none, outer := none }] none (zTail P :: zClose P :: fr) 6 none) := by
  have := s_lit (m := Z text ls 69 P P #[some k, some P] 1 1 #[{ pc := 46, count := -1, began := none, outer := none }] none (zTail P :: zClose P :: fr) 6 none) rfl rfl (by show 69 < c60.size; decide) rfl
  exact this.ifp ⟨h, hc⟩
theorem z7 : Rch 1 (Z text ls 71 (P + 1) P #[some k, some P] 1 1 #[{ pc := 46, count := -1, began := none, outer := none }] none (zTail P :: zClose P :: fr) 6 none)
    (Z text ls 71 (P + 1) (P + 1) #[some k, some P] 1 1 #[{ pc := 46, count := -1, began := none, outer := none }] none (zTail P :: zClose P :: fr) 6 (some true)) := .one fun s => ⟨_, rfl⟩
theorem z8 : Rch 1 (Z text ls 71 (P + 1) (P + 1) #[some k, some P] 1 1 #[{ pc := 46, count := -1, began := none, outer := none }] none (zTail P :: zClose P :: fr) 6 (some true))
    (Z text ls 67 P (P + 1) #[some k, some P] 1 1 #[{ pc := 46, count := -1, began := none, outer := none }] (some 0) (zClose P :: fr) 5 (some true)) := .one fun s => ⟨_, rfl⟩
theorem z9 : Rch 1 (Z text ls 67 P (P + 1) #[some k, some P] 1 1 #[{ pc := 46, count := -1, began := none, outer := none }] (some 0) (zClose P :: fr) 5 (some true))
    (Z text ls 46 P (P + 1) #[some k, some P] 1 1 #[] none fr 4 (some true)) := .one fun s => ⟨_, rfl⟩
theorem z_all (h : P < text.size) (hc : text.getD P 0 = 34) : Rch 9 (B c60 text false ls 46 P P #[some k, none] 0 (-1) fr 4 none) (B c60 text false ls 46 P (P + 1) #[some k, some P] 1 1 fr 4 (some true)) :=
  ((((((((z1.trans z2).trans (z3 (by rw [hc]; decide))).trans z4).trans z5).trans (z6 h hc)).trans z7).trans z8).trans z9)
end
theorem p60_found {text : Array Nat} (hsz : text.size ≤ 4294967295) {r r2 : List Nat} (hl : text.toList = 61 :: 34 :: r) {q : Nat} (hq : q = (r.takeWhile fun c => c != 34 && c != 92).length) (hr : r.drop q = 34 :: r2) {ls : Nat} :
    Ends 30 (B c60 text false ls 5 0 0 #[none, none] (-1) (-1) [nF 5 0 true] 1 none) fun m => Found m 0 (2 + q + 1) #[some 2, some (2 + q)] 1 := by
  have h61 : text.toList.drop 0 = 61 :: 34 :: r := hl
  have hd1 : text.toList.drop 1 = 34 :: r := by rw [hl]; rfl
  have hd2 : text.toList.drop 2 = r := by rw [hl]; rfl
  have hd3 : text.toList.drop (2 + q) = 34 :: r2 := by rw [← List.drop_drop, hd2]; exact hr
  obtain ⟨h0, hc⟩ := getD_at h61
  obtain ⟨h1, hc1⟩ := getD_at hd1
  obtain ⟨h3, hc3⟩ := getD_at hd3
  have hsp : (text.toList.takeWhile Unicode.isSpace).length = 0 := by rw [hl]; rfl
  have hsp1 : ((text.toList.drop 1).takeWhile Unicode.isSpace).length = 0 := by rw [hd1]; rfl
  refine Ends.le (n := 1 + (1 + (1 + (1 + (1 + (1 + (1 + (9 + (1 + (1 + (1 + (1 + 1)))))))))))) (by decide) ?_
  refine .step (B_at0 (by decide) rfl rfl) ?_
  refine .step (B_rep (p := Unicode.isSpace) (by decide) rfl rfl (space_ok rfl rfl rfl rfl 70 rfl) hsz (Nat.zero_le _) (by decide) 0 hsp.symm (Nat.zero_le _)) ?_
  refine .step (B_lit (by decide) rfl h0 hc) ?_
  refine .step (B_rep (p := Unicode.isSpace) (by decide) rfl rfl (space_ok rfl rfl rfl rfl 70 rfl) hsz h0 (by decide) 0 hsp1.symm (Nat.zero_le _)) ?_
  refine .step (B_lit (by decide) rfl h1 hc1) ?_
  refine .step (B_mark (by decide) rfl 0 rfl rfl) ?_
  refine .step (B_rep (p := fun c => c != 34 && c != 92) (by decide) rfl rfl quo60 hsz h1 (by decide) q (by show q = (List.takeWhile _ (text.toList.drop 2)).length; rw [hd2]; exact hq) (Nat.zero_le _)) ?_
  refine .step (show Rch 9 (B c60 text false ls 46 (2 + q) (2 + q) #[some 2, none] 0 (-1) _ 4 none) _ from z_all h3 hc3) ?_
  refine .step B_yesG (.step B_yesG (.step B_yesG (.step B_yesN ⟨_, r_end rfl rfl rfl, ⟨rfl, rfl, rfl, rfl, rfl⟩⟩)))
theorem p60_none2 {text : Array Nat} (hsz : text.size ≤ 4294967295) {r : List Nat} (hl : text.toList = 61 :: r) (hb : noBlank r = true) (hn : ∀ r', r ≠ 34 :: r') :
    Ends (3 * text.size + 10) (B c60 text false (text.size - 2) 5 0 0 #[none, none] (-1) (-1) [nF 5 0 true] 1 none) fun m => m.outcome = some .failed := by
  have h61 : text.toList.drop 0 = 61 :: r := hl
  have hd1 : text.toList.drop 1 = r := by rw [hl]; rfl
  obtain ⟨h0, hc⟩ := getD_at h61
  have hsp : (text.toList.takeWhile Unicode.isSpace).length = 0 := by rw [hl]; rfl
  refine Ends.le (n := 1 + (1 + (1 + (1 + (1 + (1 + (1 + (3 * text.size + 2)))))))) (by lia) ?_
  refine .step (B_at0 (by decide) rfl rfl) ?_
  refine .step (B_rep (p := Unicode.isSpace) (by decide) rfl rfl (space_ok rfl rfl rfl rfl 70 rfl) hsz (Nat.zero_le _) (by decide) 0 hsp.symm (Nat.zero_le _)) ?_
  refine .step (B_lit (by decide) rfl h0 hc) ?_
  refine .step (B_rep (p := Unicode.isSpace) (by decide) rfl rfl (space_ok rfl rfl rfl rfl 70 rfl) hsz h0 (by decide) 0 (by show 0 = (List.takeWhile _ (text.toList.drop 1)).length; rw [hd1]; exact (noBlank_take hb).symm) (Nat.zero_le _)) ?_
  refine .step (B_litNo (by decide) rfl fun h => ?_) ?_
  · obtain ⟨h1, h2⟩ := h
    have hlt : 1 < text.toList.length := by rw [Array.length_toList]; exact h1
    have hd := List.drop_eq_getElem_cons hlt
    have hc := (getD_at (text := text) (k := 1) hd).2
    have h2' : text.getD 1 0 = 34 := h2
    rw [hc] at h2'
    exact hn _ (hd1.symm.trans (hd.trans (by rw [h2'])))
  refine .step (B_noG (by decide)) ?_
  refine .step (B_noG (by decide)) ?_
  exact B_failN (Nat.sub_le _ _) rfl (by decide) (by decide) rfl rfl
end Mine
end
section
namespace Mine
open PySem PySem.Sre
noncomputable def c43 : Array Nat := #[14, 4, 0, 0, 4294967295, 6, 0, 24, 13, 0, 4294967295, 13, 8, 16, 61, 8, 12, 16, 59, 0, 1, 1]
theorem takeWhile_all {p : Nat → Bool} : ∀ {l : List Nat}, l.all p = true → (l.takeWhile p).length = l.length
  | [], _ => rfl
  | c :: r, h => by
    rw [List.all_cons, Bool.and_eq_true] at h
    rw [List.takeWhile_cons, h.1, if_pos rfl, List.length_cons, List.length_cons, takeWhile_all h.2]
theorem all_of_takeWhile {p : Nat → Bool} : ∀ {l : List Nat}, l.all p = false → (l.takeWhile p).length < l.length
  | [], h => by simp at h
  | c :: r, h => by
    rw [List.takeWhile_cons]
    rw [List.all_cons] at h
    cases hp : p c with
    | false => rw [if_neg Bool.false_ne_true]; exact Nat.succ_pos _
    | true =>
      rw [hp, Bool.true_and] at h
      rw [if_pos rfl, List.length_cons, List.length_cons]
      exact Nat.succ_lt_succ (all_of_takeWhile h)
noncomputable def c82 : Array Nat := #[14, 4, 0, 1, 4294967295, 24, 16, 1, 4294967295, 13, 11, 9, 0, 67071226, 3355443198, 1476395007, 0, 0, 0, 0, 0, 1, 1]
theorem cs82 : ∀ c, c < 256 → ((#[0, 67071226, 3355443198, 1476395007, 0, 0, 0, 0] : Array Nat).getD (c / 32) 0).testBit (c % 32) = isTokCh c := by decide +kernel
theorem isTokCh_lt {c : Nat} (h : isTokCh c = true) : c < 256 := by
  unfold isTokCh at h
  rcases Bool.or_eq_true_iff.mp h with h | h
  · have f : ∀ {x y : Nat}, y < 256 → (decide (x ≤ c) && decide (c ≤ y)) = true → c < 256 := fun hy e => Nat.lt_of_le_of_lt (of_decide_eq_true (Bool.and_eq_true_iff.mp e).2) hy
    rcases Bool.or_eq_true_iff.mp h with h | h
    · rcases Bool.or_eq_true_iff.mp h with h | h
      · exact f (by decide) h
      · exact f (by decide) h
    · exact f (by decide) h
  · exact (by decide : ∀ x ∈ [33, 35, 36, 37, 38, 39, 42, 43, 45, 46, 94, 95, 96, 124, 126], x < 256) c (List.contains_iff_mem.mp h)
theorem tok82 (c : Nat) : OneOk c82 9 c (isTokCh c) := acc_in rfl fun s => by
  rw [show c82.size = 21 + 2 from rfl, is_cs rfl]
  have hcs : (decide (c < 256) && (c82.getD (9 + 2 + (1 + c / 32)) 0).testBit (c % 32)) = isTokCh c := by
    by_cases h : c < 256
    · rw [decide_eq_true h, Bool.true_and, ← cs82 c h]
      have : c / 32 < 8 := by lia
      have e : ∀ k, k < 8 → c82.getD (9 + 2 + (1 + k)) 0 = (#[0, 67071226, 3355443198, 1476395007, 0, 0, 0, 0] : Array Nat).getD k 0 := by decide
      rw [e _ this]
    · rw [decide_eq_false h, Bool.false_and]
      cases hh : isTokCh c with
      | false => rfl
      | true => exact absurd (isTokCh_lt hh) h
  rw [hcs]
  cases isTokCh c with
  | true => exact ⟨_, rfl⟩
  | false => rw [if_neg Bool.false_ne_true, is_end rfl]; exact ⟨_, rfl⟩
theorem start82 {text : Array Nat} (h : 1 ≤ text.size) : ∃ s, forMatch c82 text 0 0 text.size true false = wS (B c82 text true 0 5 0 0 #[] (-1) (-1) [] 0 none) s := by
  unfold forMatch
  dsimp only
  rw [if_neg (by
    show ¬ ((1 != 0 && decide (0 ≤ text.size) && decide (text.size - 0 < 1)) = true)
    have h2 : ¬ text.size - 0 < 1 := by lia
    rw [decide_eq_false h2, Bool.and_false]; exact Bool.false_ne_true)]
  exact ⟨_, rfl⟩
theorem start82e {text : Array Nat} (h : text.size = 0) : ∃ m, forMatch c82 text 0 0 text.size true false = m ∧ Ends 1 m fun b => b.outcome = some .failed := by
  have : ∃ m : M, forMatch c82 text 0 0 text.size true false = m.say false ∧ m.outcome = none ∧ m.frames = [] := by
    unfold forMatch
    dsimp only
    rw [if_pos (by
      show (1 != 0 && decide (0 ≤ text.size) && decide (text.size - 0 < 1)) = true
      rw [h]; rfl)]
    exact ⟨_, rfl, rfl, rfl⟩
  obtain ⟨m, e, h1, h2⟩ := this
  exact ⟨_, e, _, r_end (m := m.say false) (yes := false) h1 rfl h2, rfl⟩
theorem p82_found {text : Array Nat} (hsz : text.size ≤ 4294967295) (h1 : 1 ≤ text.size) (ha : text.toList.all isTokCh = true) :
    Ends 20 (B c82 text true 0 5 0 0 #[] (-1) (-1) [] 0 none) fun m => Found m 0 text.size #[] (-1) := by
  have hn : text.size = (text.toList.takeWhile isTokCh).length := by
    rw [takeWhile_all ha, Array.length_toList]
  refine Ends.le (n := 1 + (1 + (1 + 1))) (by decide) ?_
  refine .step (B_rep (p := isTokCh) (by decide) rfl rfl tok82 hsz (Nat.zero_le _) (by decide) text.size hn (show 1 ≤ text.size from h1)) ?_
  rw [Nat.zero_add]
  refine .step (B_success (by decide) rfl (.inr rfl)) ?_
  exact .step B_yesG ⟨_, r_end rfl rfl rfl, ⟨rfl, rfl, rfl, rfl, rfl⟩⟩
theorem back82 {text : Array Nat} : ∀ (k : Nat) (pc hd : Nat), k < text.size → 1 ≤ k → Ends (2 * k + 2) (B c82 text true 0 pc k hd #[] (-1) (-1) [gF 5 k true k (-1) (-1)] 1 (some false)) fun b => b.outcome = some .failed
  | 0, _, _, _, h => absurd h (by decide)
  | k + 1, pc, hd, hk, _ => by
    by_cases h : k = 0
    · subst h
      exact Ends.le (by lia) (.step (B_noG (by show (((0 + 1 : Nat) : Int)) - 1 < ((1 : Nat) : Int); decide)) ⟨_, r_end rfl rfl rfl, rfl⟩)
    · have e : ((k + 1 : Nat) : Int) - 1 = (k : Nat) := by lia
      refine Ends.le (n := 1 + (1 + (2 * k + 2))) (by lia) ?_
      refine .step (B_giveG (by show ¬ (((k + 1 : Nat) : Int)) - 1 < ((1 : Nat) : Int); lia) (by decide)) ?_
      rw [e, Nat.add_sub_cancel]
      refine .step (B_successNo (by decide) rfl rfl (by lia)) ?_
      exact back82 k _ _ (by lia) (by lia)
theorem p82_none {text : Array Nat} (hsz : text.size ≤ 4294967295) (ha : text.toList.all isTokCh = false) :
    Ends (3 * text.size + 10) (B c82 text true 0 5 0 0 #[] (-1) (-1) [] 0 none) fun m => m.outcome = some .failed := by
  have hlt : (text.toList.takeWhile isTokCh).length < text.size := by
    have := all_of_takeWhile ha
    rwa [Array.length_toList] at this
  by_cases h0 : (text.toList.takeWhile isTokCh).length < 1
  · refine Ends.le (n := 1 + 1) (by lia) ?_
    exact .step (B_repNo (p := isTokCh) (by decide) rfl rfl tok82 hsz (Nat.zero_le _) (by decide) _ rfl h0) ⟨_, r_end rfl rfl rfl, rfl⟩
  · refine Ends.le (n := 1 + (1 + (2 * (text.toList.takeWhile isTokCh).length + 2))) (by lia) ?_
    refine .step (B_rep (p := isTokCh) (by decide) rfl rfl tok82 hsz (Nat.zero_le _) (by decide) _ rfl (show 1 ≤ _ by exact Nat.not_lt.mp h0)) ?_
    rw [Nat.zero_add, List.drop_zero]
    refine .step (B_successNo (by decide) rfl rfl (by lia)) ?_
    exact back82 _ _ _ hlt (by lia)
theorem fail_lit {pc : Nat} : ∀ (d : Nat) (m : M) (pos : Nat) (out : Bool), m.lastStart - pos ≤ d → m.outcome = none → m.answer = some false → m.frames = [nF pc pos out] → m.hasFirstSet = false → 1 ≤ m.weight → m.weight ≤ 1000 →
    pc < m.code.size → m.code.getD pc 0 = 16 → (∀ k, k < m.lim → m.text.getD k 0 ≠ m.code.getD (pc + 1) 0) → Ends (3 * d + 2) m fun b => b.outcome = some .failed
  | 0, m, pos, out, hd, ho, ha, hf, hfs, hw1, hwt, hp, hc, hn => by
    have h1 := r_next ho ha hf hfs hw1 hwt
    rw [if_neg (by lia)] at h1
    exact Ends.le (by lia) (.step h1 ⟨_, r_end (yes := false) ho rfl rfl, rfl⟩)
  | d + 1, m, pos, out, hd, ho, ha, hf, hfs, hw1, hwt, hp, hc, hn => by
    have h1 := r_next ho ha hf hfs hw1 hwt
    by_cases h : pos < m.lastStart
    · rw [if_pos h] at h1
      have h2 := s_lit (m := { m with answer := none, mustAdvance := false, start := pos + 1, pos := pos + 1, handed := pos + 1, pc := pc, lastmark := -1, lastindex := -1, outermost := false, frames := [nF pc (pos + 1) false] }) ho rfl hp hc
      have h2' := h2.ifn fun q => hn _ q.1 q.2
      have h3 := fail_lit d (({ m with answer := none, mustAdvance := false, start := pos + 1, pos := pos + 1, handed := pos + 1, pc := pc, lastmark := -1, lastindex := -1, outermost := false, frames := [nF pc (pos + 1) false] } : M).say false) (pos + 1) false
        (by show m.lastStart - (pos + 1) ≤ d; lia) ho rfl rfl hfs hw1 hwt hp hc hn
      exact Ends.le (by lia) (.step h1 (.step h2' h3))
    · rw [if_neg h] at h1
      exact Ends.le (by lia) (.step h1 ⟨_, r_end (yes := false) ho rfl rfl, rfl⟩)
noncomputable def c70 : Array Nat := #[14, 8, 1, 2, 2, 1, 1, 92, 0, 16, 92, 17, 0, 2, 17, 1, 1]
theorem p70_none {text : Array Nat} (ha : ∀ k, k < text.size → text.getD k 0 ≠ 92) : ∃ m, forSearch c70 text 1 0 text.size false = m ∧ ∃ s m', m = wS m' s ∧ Ends (3 * text.size + 10) m' fun b => b.outcome = some .failed := by
  refine ⟨_, rfl, ?_⟩
  by_cases h : text.size < 2
  · have : ∃ m : M, forSearch c70 text 1 0 text.size false = m.say false ∧ m.outcome = none ∧ m.frames = [] := by
      unfold forSearch
      dsimp only
      rw [if_pos (by
        show (decide (0 > text.size) || decide (text.size - 0 < 2)) = true
        rw [decide_eq_true (show text.size - 0 < 2 by lia), Bool.or_true])]
      exact ⟨_, rfl, rfl, rfl⟩
    obtain ⟨m, e, h1, h2⟩ := this
    exact ⟨_, _, e.trans (wS_self _).symm, Ends.le (n := 1) (by lia) ⟨_, r_end (m := m.say false) (yes := false) h1 rfl h2, rfl⟩⟩
  · have : ∃ s, forSearch c70 text 1 0 text.size false = wS (B c70 text false text.size 9 0 0 #[none, none] (-1) (-1) [nF 9 0 true] 1 none) s := by
      unfold forSearch
      dsimp only
      rw [if_neg (by
        show ¬ ((decide (0 > text.size) || decide (text.size - 0 < 2)) = true)
        have h1 : ¬ 0 > text.size := Nat.not_lt_zero _
        have h2 : ¬ text.size - 0 < 2 := by lia
        rw [decide_eq_false h1, decide_eq_false h2]; exact Bool.false_ne_true)]
      unfold M.attemptFrom
      rw [if_pos (by rfl)]
      exact ⟨_, rfl⟩
    obtain ⟨s, e⟩ := this
    refine ⟨s, _, e, Ends.le (n := 1 + (3 * text.size + 2)) (by lia) ?_⟩
    refine .step (B_litNo (by decide) rfl fun q => ha _ q.1 q.2) ?_
    exact fail_lit (pc := 9) text.size _ 0 true (by show text.size - 0 ≤ text.size; lia) rfl rfl rfl rfl (by show 1 ≤ 1; decide) (by show 1 ≤ 1000; decide) (by show 9 < c70.size; decide) rfl ha
theorem admitted_none (m : M) (hs : ∀ k, k < m.lim → ∀ s, ∃ s', inSet m.code (m.text.getD k 0) m.code.size 5 true s = .ok (false, s')) : ∀ (fuel k : Nat) (s : Seen), ∃ s', M.admitted m fuel k s = .ok (none, s')
  | 0, k, s => ⟨s, rfl⟩
  | fuel + 1, k, s => by
    unfold M.admitted
    by_cases h : k ≥ m.lim
    · rw [if_pos h]; exact ⟨s, rfl⟩
    · rw [if_neg h]
      obtain ⟨s1, e1⟩ := hs k (by lia) s
      rw [e1]
      exact admitted_none m hs fuel (k + 1) s1
noncomputable def c87 : Array Nat := #[14, 9, 4, 1, 1, 16, 34, 16, 92, 0, 17, 0, 13, 6, 16, 34, 16, 92, 0, 17, 1, 1]
noncomputable def c99 : Array Nat := #[14, 14, 4, 1, 1, 9, 0, 64, 0, 1342177280, 0, 0, 0, 0, 0, 17, 0, 13, 11, 9, 0, 64, 0, 1342177280, 0, 0, 0, 0, 0, 17, 1, 1]
theorem set87 {c : Nat} (h : (c != 92 && c != 34) = true) (s : Seen) : ∃ s', inSet c87 c c87.size 5 true s = .ok (false, s') := by
  simp only [Bool.and_eq_true, bne_iff_ne, ne_eq] at h
  rw [show c87.size = 19 + 3 from rfl, is_lit rfl, if_neg (show ¬ ((c == c87.getD (5 + 1) 0) = true) from fun q => h.2 (beq_iff_eq.mp q)), is_lit rfl,
    if_neg (show ¬ ((c == c87.getD (5 + 2 + 1) 0) = true) from fun q => h.1 (beq_iff_eq.mp q)), is_end rfl]
  exact ⟨_, rfl⟩
theorem first_none {code text : Array Nat} (m0 : M) (hc : m0.code = code) (ht : m0.text = text) (hl : m0.lim = text.size) (ho : m0.outcome = none) (hf : m0.frames = []) (hfs : m0.hasFirstSet = true)
    (hs : ∀ k, k < text.size → ∀ s, ∃ s', inSet code (text.getD k 0) code.size 5 true s = .ok (false, s')) : ∃ s m', m0.attemptFrom 0 true = wS m' s ∧ Ends 1 m' fun b => b.outcome = some .failed := by
  subst hc ht
  unfold M.attemptFrom
  rw [hfs, if_neg (by decide)]
  obtain ⟨s', e⟩ := admitted_none m0 (by rw [hl]; exact hs) (m0.lim + 1 - 0) 0 m0.seen
  rw [e]
  exact ⟨s', m0.say false, rfl, _, r_end (m := m0.say false) (yes := false) ho rfl hf, rfl⟩
theorem p87_none {text : Array Nat} (ha : ∀ k, k < text.size → (text.getD k 0 != 92 && text.getD k 0 != 34) = true) : ∃ s m', forSearch c87 text 1 0 text.size false = wS m' s ∧ Ends 1 m' fun b => b.outcome = some .failed := by
  unfold forSearch
  dsimp only
  by_cases h : text.size < 1
  · rw [if_pos (by
      show (decide (0 > text.size) || decide (text.size - 0 < 1)) = true
      rw [decide_eq_true (show text.size - 0 < 1 by lia), Bool.or_true])]
    exact ⟨_, _, (wS_self _).symm, _, r_end rfl rfl rfl, rfl⟩
  · rw [if_neg (by
      show ¬ ((decide (0 > text.size) || decide (text.size - 0 < 1)) = true)
      have h1 : ¬ 0 > text.size := Nat.not_lt_zero _
      have h2 : ¬ text.size - 0 < 1 := by lia
      rw [decide_eq_false h1, decide_eq_false h2]; exact Bool.false_ne_true)]
    exact first_none _ rfl rfl rfl rfl rfl rfl fun k hk s => set87 (ha k hk) s
end Mine
end
section
namespace Mine
open PySem PySem.W PyProof.Rows PySem.Calls Builtin Builtin.Re
theorem step_idle {m : Sre.M} (h : m.outcome.isSome = true) : m.step = m := by unfold Sre.M.step; rw [if_pos h]
theorem it_idle : ∀ (n : Nat) {m : Sre.M}, m.outcome.isSome = true → it n m = m
  | 0, _, _ => rfl
  | n + 1, m, h => by show it n m.step = m; rw [step_idle h]; exact it_idle n h
theorem runFor_it : ∀ (n : Nat) (m : Sre.M), m.runFor n = it n m
  | 0, _ => rfl
  | n + 1, m => by
    unfold Sre.M.runFor
    by_cases h : m.outcome.isSome = true
    · rw [if_pos h, it_idle _ h]
    · rw [if_neg h]; exact runFor_it n m.step
theorem it_past {k n : Nat} {m : Sre.M} (h : (it k m).outcome.isSome = true) (hk : k ≤ n) : it n m = it k m := by
  obtain ⟨d, rfl⟩ := Nat.le.dest hk
  rw [it_add, it_idle _ h]
section
variable {prog : Program} {w : World} {A : Around} {E : Value → Shared → Prop} {s : Shared}
theorem drive_ok : ∀ (turns k : Nat) (m : Sre.M) {Q : Sre.M → Shared → Prop}, (it k m).outcome.isSome = true → k ≤ 4 * turns → 1 ≤ turns → Q (it k m) s → wpAny (model prog w) A (reDrive turns m) Q E s
  | 0, k, m, Q, h, hk, h1, q => absurd h1 (by decide)
  | turns + 1, k, m, Q, h, hk, _, q => by
    unfold reDrive
    dsimp only
    rw [runFor_it]
    by_cases ho : (it reTurnSteps m).outcome.isSome = true
    · rw [if_pos ho]
      have e : it reTurnSteps m = it k m := by
        rcases Nat.le_total k reTurnSteps with hk' | hk'
        · exact it_past h hk'
        · exact (it_past ho hk').symm
      rw [e]; exact wpAny_pure q
    · rw [if_neg ho]
      have hlt : reTurnSteps < k := by
        rcases Nat.lt_or_ge reTurnSteps k with h' | h'
        · exact h'
        · exact absurd (by rw [it_past h h']; exact h) ho
      have e : it (k - reTurnSteps) (it reTurnSteps m) = it k m := by rw [← it_add]; congr 1; lia
      refine wpAny_bind (wpAny_rule (drive_ok turns (k - reTurnSteps) (it reTurnSteps m) (by rw [e]; exact h) ?_ ?_ (by rw [e]; exact q)))
      · have : reTurnSteps = 4 := rfl
        lia
      · have : reTurnSteps = 4 := rfl
        rcases Nat.eq_zero_or_pos turns with e0_ | h'
        · obtain rfl := e0_.symm; lia
        · exact h'
theorem seen_loop {seen : Sre.Seen} : ∀ (l : List Nat) {Q : PUnit → Shared → Prop}, Q PUnit.unit s → wpAny (model prog w) A (forIn l PUnit.unit fun i _ => if seen.has i = true then do rule (Sre.names.getD i ""); pure (ForInStep.yield PUnit.unit) else pure (ForInStep.yield PUnit.unit)) Q E s
  | [], _, q => by rw [List.forIn_nil]; exact wpAny_pure q
  | i :: l, Q, q => by
    rw [List.forIn_cons]
    refine wpAny_bind ?_
    by_cases h : seen.has i = true
    · rw [if_pos h]; exact wpAny_bind (wpAny_rule (wpAny_pure (seen_loop l q)))
    · rw [if_neg h]; exact wpAny_pure (seen_loop l q)
theorem run_end {m : Sre.M} {s0 : Sre.Seen} {n : Nat} {P : Sre.M → Prop} {Q : Option Sre.M → Shared → Prop} (h : Ends n m P) (hn : n ≤ 4 * 2 ^ 64)
    (q : ∀ b s0, P b → (b.outcome = some .matched ∧ Q (some (wS b s0)) s) ∨ (b.outcome = some .failed ∧ Q none s)) : wpAny (model prog w) A (reRunToEnd (wS m s0)) Q E s := by
  obtain ⟨b, r, p⟩ := h
  obtain ⟨k, hk, s1, e⟩ := r s0
  have hb := q b s1 p
  have ho : (it k (wS m s0)).outcome.isSome = true := by
    rw [e]
    rcases hb with ⟨h, _⟩ | ⟨h, _⟩
    · show b.outcome.isSome = true; rw [h]; rfl
    · show b.outcome.isSome = true; rw [h]; rfl
  unfold reRunToEnd
  refine wpAny_bind (drive_ok (2 ^ 64) k _ ho (by lia) (by decide) ?_)
  rw [e]
  refine wpAny_bind ?_
  refine seen_loop _ ?_
  rcases hb with ⟨h, hq⟩ | ⟨h, hq⟩
  · show wpAny _ _ (match b.outcome with
      | some .matched => pure (some (wS b s1))
      | some .failed => pure none
      | some (.stuck why) => unsupported s!"_sre:{why}"
      | none => unsupported "internal:sre:no-outcome") _ _ _
    rw [h]; exact wpAny_pure hq
  · show wpAny _ _ (match b.outcome with
      | some .matched => pure (some (wS b s1))
      | some .failed => pure none
      | some (.stuck why) => unsupported s!"_sre:{why}"
      | none => unsupported "internal:sre:no-outcome") _ _ _
    rw [h]; exact wpAny_pure hq
end
noncomputable def PatAt (h : Heap) (p : Addr) (code : Array Nat) (groups : Nat) : Prop :=
  ∃ pat tok fl tokf ca, h.get? p = some { cls := .type "re.Pattern", data := .fields #[.str pat tok, .int fl tokf, rawInt groups, .none, .none, .ref ca, rawInt 0] } ∧
    h.get? ca = some { cls := .type "tuple", data := .seq (code.map fun (w : Nat) => rawInt (w : Int)) }
theorem PatAt.keeps {h h' : Heap} {p : Addr} {code : Array Nat} {g : Nat} (x : PatAt h p code g) (k : ∀ b o, h.get? b = some o → h'.get? b = some o) : PatAt h' p code g :=
  let ⟨a, b, c, d, e, h1, h2⟩ := x; ⟨a, b, c, d, e, k _ _ h1, k _ _ h2⟩
namespace G
theorem slot_search : Slot "re.Pattern" "search" "re.Pattern.search" := (.of (owner := "re.Pattern") (n := "search") (by rw [typeLookup_type, builtinLookup_eq_fast]; kernel_rfl) (by decide +kernel) (by decide +kernel) (by decide +kernel) (by first | exact .inl (by decide +kernel) | exact .inr (by decide +kernel)) (by rw [isSubtype_type]; kernel_rfl))
theorem slot_fullmatch : Slot "re.Pattern" "fullmatch" "re.Pattern.fullmatch" := (.of (owner := "re.Pattern") (n := "fullmatch") (by rw [typeLookup_type, builtinLookup_eq_fast]; kernel_rfl) (by decide +kernel) (by decide +kernel) (by decide +kernel) (by first | exact .inl (by decide +kernel) | exact .inr (by decide +kernel)) (by rw [isSubtype_type]; kernel_rfl))
theorem slot_sub : Slot "re.Pattern" "sub" "re.Pattern.sub" := (.of (owner := "re.Pattern") (n := "sub") (by rw [typeLookup_type, builtinLookup_eq_fast]; kernel_rfl) (by decide +kernel) (by decide +kernel) (by decide +kernel) (by first | exact .inl (by decide +kernel) | exact .inr (by decide +kernel)) (by rw [isSubtype_type]; kernel_rfl))
theorem slot_subn : Slot "re.Pattern" "subn" "re.Pattern.subn" := (.of (owner := "re.Pattern") (n := "subn") (by rw [typeLookup_type, builtinLookup_eq_fast]; kernel_rfl) (by decide +kernel) (by decide +kernel) (by decide +kernel) (by first | exact .inl (by decide +kernel) | exact .inr (by decide +kernel)) (by rw [isSubtype_type]; kernel_rfl))
theorem slot_span : Slot "re.Match" "span" "re.Match.span" := (.of (owner := "re.Match") (n := "span") (by rw [typeLookup_type, builtinLookup_eq_fast]; kernel_rfl) (by decide +kernel) (by decide +kernel) (by decide +kernel) (by first | exact .inl (by decide +kernel) | exact .inr (by decide +kernel)) (by rw [isSubtype_type]; kernel_rfl))
theorem slot_group : Slot "re.Match" "group" "re.Match.group" := (.of (owner := "re.Match") (n := "group") (by rw [typeLookup_type, builtinLookup_eq_fast]; kernel_rfl) (by decide +kernel) (by decide +kernel) (by decide +kernel) (by first | exact .inl (by decide +kernel) | exact .inr (by decide +kernel)) (by rw [isSubtype_type]; kernel_rfl))
theorem entry_search : entryFor table "re.Pattern.search" = some Builtin.«re.Pattern.search» := entryFor_of_tree (by kernel_rfl)
theorem entry_fullmatch : entryFor table "re.Pattern.fullmatch" = some Builtin.«re.Pattern.fullmatch» := entryFor_of_tree (by kernel_rfl)
theorem entry_sub : entryFor table "re.Pattern.sub" = some Builtin.«re.Pattern.sub» := entryFor_of_tree (by kernel_rfl)
theorem entry_loop : entryFor table "re.Pattern.sub.loop" = some Builtin.«re.Pattern.sub.loop» := entryFor_of_tree (by kernel_rfl)
theorem entry_span : entryFor table "re.Match.span" = some Builtin.«re.Match.span» := entryFor_of_tree (by kernel_rfl)
theorem entry_group : entryFor table "re.Match.group" = some Builtin.«re.Match.group» := entryFor_of_tree (by kernel_rfl)
theorem args_search (a b : Value) : argsOk "re.Pattern.search" ⟨[a, b], []⟩ := by unfold argsOk; kernel_rfl
theorem args_fullmatch (a b : Value) : argsOk "re.Pattern.fullmatch" ⟨[a, b], []⟩ := by unfold argsOk; kernel_rfl
theorem args_sub (a b c : Value) : argsOk "re.Pattern.sub" ⟨[a, b, c], []⟩ := by unfold argsOk; kernel_rfl
theorem args_span (a b : Value) : argsOk "re.Match.span" ⟨[a, b], []⟩ := by unfold argsOk; kernel_rfl
theorem args_group (a b : Value) : argsOk "re.Match.group" ⟨[a, b], []⟩ := by unfold argsOk; kernel_rfl
theorem type_search : typeOf (.builtin "re.Pattern.search") = pure (.type "method_descriptor") := by show builtinType _ = _; rw [builtinType_eq_fast]; kernel_rfl
theorem type_fullmatch : typeOf (.builtin "re.Pattern.fullmatch") = pure (.type "method_descriptor") := by show builtinType _ = _; rw [builtinType_eq_fast]; kernel_rfl
theorem type_sub : typeOf (.builtin "re.Pattern.sub") = pure (.type "method_descriptor") := by show builtinType _ = _; rw [builtinType_eq_fast]; kernel_rfl
theorem type_subn : typeOf (.builtin "re.Pattern.subn") = pure (.type "method_descriptor") := by show builtinType _ = _; rw [builtinType_eq_fast]; kernel_rfl
theorem type_span : typeOf (.builtin "re.Match.span") = pure (.type "method_descriptor") := by show builtinType _ = _; rw [builtinType_eq_fast]; kernel_rfl
theorem type_group : typeOf (.builtin "re.Match.group") = pure (.type "method_descriptor") := by show builtinType _ = _; rw [builtinType_eq_fast]; kernel_rfl
theorem plain_pat : PlainAttrs "re.Pattern" := ⟨⟨"object.__getattribute__", by rw [typeLookup_type, builtinLookup_eq_fast]; kernel_rfl, by decide +kernel⟩, by rw [typeLookup_type, builtinLookup_eq_fast]; kernel_rfl⟩
theorem plain_match : PlainAttrs "re.Match" := ⟨⟨"object.__getattribute__", by rw [typeLookup_type, builtinLookup_eq_fast]; kernel_rfl, by decide +kernel⟩, by rw [typeLookup_type, builtinLookup_eq_fast]; kernel_rfl⟩
end G
section
variable {prog : Program} {w : World} {A : Around} {E : Value → Shared → Prop} {s : Shared}
theorem rawItems_ok {a : Addr} {o : Obj} {items : Array Value} {n : Nat} {Q : Array Int → Shared → Prop} (ho : s.heap.get? a = some o) (hd : o.data = .seq items n) (h : Q (items.map reRawOf) s) : wpAny (model prog w) A (reRawItems (.ref a)) Q E s := by
  unfold reRawItems
  exact wpAny_bind (wpAny_seqItems ho hd (wpAny_pure h))
theorem code_back (code : Array Nat) : ((code.map fun (w : Nat) => rawInt (w : Int)).map reRawOf).map (·.toNat) = code := by
  apply Array.toList_inj.mp
  simp [reRawOf, rawInt, Function.comp_def]
theorem target_ok {p : Addr} {code : Array Nat} {g : Nat} {x : Str} {t : Tok} {id f : String} {Q : ReTarget → Shared → Prop} (hp : PatAt s.heap p code g) (hx : x.length ≤ 1000000)
    (hn : reNamed id f ["string", "pos", "endpos"] 1 [.str x t] [] = pure [some (.str x t), none, none])
    (h : Q { pattern := .ref p, string := .str x t, code := code, text := x.cps, kind := 0, groups := g, pos := 0, lim := x.cps.size } s) :
    wpAny (model prog w) A (reTarget id f ⟨[.ref p, .str x t], []⟩) Q E s := by
  obtain ⟨pat, tok, fl, tokf, ca, h1, h2⟩ := hp
  unfold reTarget
  dsimp only
  refine wpAny_bind (wpAny_of_eq hn ?_)
  dsimp only
  refine wpAny_bind (wpAny_pure ?_)
  refine wpAny_bind (wpAny_pure ?_)
  refine wpAny_bind (wpAny_fieldsOf h1 rfl ?_)
  refine wpAny_bind (wpAny_of_eq (a := (x.cps, 0)) rfl ?_)
  show wpAny _ _ (if false = true then _ else (if false = true then _ else _)) _ _ _
  rw [if_neg Bool.false_ne_true, if_neg Bool.false_ne_true]
  refine wpAny_bind (wpAny_of_eq (a := ()) rfl ?_)
  refine wpAny_bind (rawItems_ok (a := ca) h2 rfl ?_)
  have hl : min ((2 : Int) ^ 63 - 1).toNat x.cps.size = x.cps.size := by
    have : x.cps.size ≤ 1000000 := hx
    have h2 : ((2 : Int) ^ 63 - 1).toNat = 9223372036854775807 := by decide
    rw [h2]; lia
  refine wpAny_pure ?_
  show Q { pattern := .ref p, string := .str x t, code := ((code.map fun (w : Nat) => rawInt (w : Int)).map reRawOf).map (·.toNat), text := x.cps, kind := 0, groups := ((g : Nat) : Int).toNat, pos := min (Int.toNat 0) x.cps.size, lim := min ((2 : Int) ^ 63 - 1).toNat x.cps.size } s
  rw [code_back, hl, Int.toNat_natCast, show min (Int.toNat 0) x.cps.size = 0 from Nat.zero_min _]
  exact h
theorem wholeTarget_ok {p : Addr} {code : Array Nat} {g : Nat} {x : Str} {t : Tok} {Q : ReTarget → Shared → Prop} (hp : PatAt s.heap p code g)
    (h : Q { pattern := .ref p, string := .str x t, code := code, text := x.cps, kind := 0, groups := g, pos := 0, lim := x.cps.size } s) :
    wpAny (model prog w) A (reWholeTarget (.ref p) (.str x t)) Q E s := by
  obtain ⟨pat, tok, fl, tokf, ca, h1, h2⟩ := hp
  unfold reWholeTarget
  refine wpAny_bind (wpAny_fieldsOf h1 rfl ?_)
  refine wpAny_bind (wpAny_of_eq (a := (x.cps, 0)) rfl ?_)
  show wpAny _ _ (if false = true then _ else (if false = true then _ else _)) _ _ _
  rw [if_neg Bool.false_ne_true, if_neg Bool.false_ne_true]
  refine wpAny_bind (wpAny_of_eq (a := ()) rfl ?_)
  refine wpAny_bind (rawItems_ok (a := ca) h2 rfl ?_)
  refine wpAny_pure ?_
  show Q { pattern := .ref p, string := .str x t, code := ((code.map fun (w : Nat) => rawInt (w : Int)).map reRawOf).map (·.toNat), text := x.cps, kind := 0, groups := ((g : Nat) : Int).toNat, pos := 0, lim := x.cps.size } s
  rw [code_back, Int.toNat_natCast]
  exact h
theorem named_search (x : Str) (t : Tok) (id f : String) : reNamed id f ["string", "pos", "endpos"] 1 [.str x t] [] = pure [some (.str x t), none, none] := by kernel_rfl
noncomputable def mObj (x : Str) (t : Tok) (p : Addr) (pos lim li : Int) (st : Addr) : Obj :=
  { cls := .type "re.Match", data := .fields #[.str x t, .ref p, rawInt pos, rawInt lim, rawInt li, .ref st] }
noncomputable def sObj (l : List Nat) : Obj := { cls := .type "tuple", data := .seq (l.map fun (n : Nat) => rawInt (n : Int)).toArray }
theorem newMatch1 {p : Addr} {x : Str} {t : Tok} {lim a b e : Nat} {m : Sre.M} {Q : Value → Shared → Prop} (hf : Found m 0 e #[some a, some b] 1) (hab : a ≤ b)
    (h : Q (.ref (s.heap.push (sObj [0, e, a, b])).objs.size) { s with heap := (s.heap.push (sObj [0, e, a, b])).push (mObj x t p ((0 : Nat) : Int) (lim : Int) m.lastindex s.heap.objs.size) }) :
    wpAny (model prog w) A (reNewMatch (.ref p) (.str x t) 1 0 lim m) Q E s := by
  unfold reNewMatch
  rw [hf.mks, hf.lm, hf.st, hf.hd]
  dsimp only
  have h2 : ((List.range 1).any fun g => match (#[some a, some b] : Array (Option Nat)).getD (2 * g) none, (#[some a, some b] : Array (Option Nat)).getD (2 * g + 1) none with | some b, some e => decide (((2 * g + 1 : Nat) : Int) ≤ 1) && decide (e < b) | _, _ => false) = false := by
    show ((decide (((2 * 0 + 1 : Nat) : Int) ≤ 1) && decide (b < a)) || false) = false
    rw [decide_eq_false (show ¬ b < a by lia)]; rfl
  split
  · rename_i hc; exact absurd (h2.symm.trans hc) Bool.false_ne_true
  · refine wpAny_bind (wpAny_newTuple (items := [rawInt (0 : Nat), rawInt e, rawInt a, rawInt b]) ?_)
    unfold newFields
    exact wpAny_newObj_type h
theorem newMatch0 {p : Addr} {x : Str} {t : Tok} {lim e : Nat} {m : Sre.M} {Q : Value → Shared → Prop} (hf : Found m 0 e #[] (-1))
    (h : Q (.ref (s.heap.push (sObj [0, e])).objs.size) { s with heap := (s.heap.push (sObj [0, e])).push (mObj x t p ((0 : Nat) : Int) (lim : Int) m.lastindex s.heap.objs.size) }) :
    wpAny (model prog w) A (reNewMatch (.ref p) (.str x t) 0 0 lim m) Q E s := by
  unfold reNewMatch
  rw [hf.mks, hf.lm, hf.st, hf.hd]
  dsimp only
  split
  · rename_i hc; exact absurd (show false = true from hc) Bool.false_ne_true
  · refine wpAny_bind (wpAny_newTuple (items := [rawInt (0 : Nat), rawInt e]) ?_)
    unfold newFields
    exact wpAny_newObj_type h
theorem search_ok {p : Addr} {code : Array Nat} {x : Str} {t : Tok} {Q : Value → Shared → Prop} (hp : PatAt s.heap p code 1) (hx : x.length ≤ 1000000)
    {m : Sre.M} {s0 : Sre.Seen} (hm : Sre.forSearch code x.cps 1 0 x.cps.size false = wS m s0) {r : Option (Nat × Nat × Nat)}
    (hr : Ends (3 * x.cps.size + 30) m fun b => match r with | some (a, c, e) => Found b 0 e #[some a, some c] 1 ∧ a ≤ c | none => b.outcome = some .failed)
    (h : match r with
      | some (a, c, e) => ∀ li, Q (.ref (s.heap.push (sObj [0, e, a, c])).objs.size) { s with heap := (s.heap.push (sObj [0, e, a, c])).push (mObj x t p ((0 : Nat) : Int) (x.cps.size : Int) li s.heap.objs.size) }
      | none => Q .none s) : wpAny (model prog w) A (call (.builtin "re.Pattern.search") [.ref p, .str x t]) Q E s := by
  obtain ⟨pat, tok, fl, tokf, ca, h1, h2⟩ := id hp
  have hxs : x.cps.size ≤ 1000000 := hx
  refine wpAny_call_entry G.slot_search ⟨_, h1, rfl⟩ G.entry_search ?_ (G.args_search _ _)
  unfold Builtin.«re.Pattern.search»
  refine wpAny_bind (target_ok hp hx (named_search _ _ _ _) ?_)
  unfold reAnswer
  dsimp only
  rw [hm]
  refine wpAny_bind (run_end hr (by lia) fun b s1 hb => ?_)
  cases r with
  | none =>
    exact .inr ⟨hb, wpAny_pure ⟨_, rfl, h⟩⟩
  | some q =>
    obtain ⟨a, c, e⟩ := q
    refine .inl ⟨hb.1.oc, ?_⟩
    refine wpAny_bind (newMatch1 (m := wS b s1) ⟨hb.1.oc, hb.1.st, hb.1.hd, hb.1.mks, hb.1.lm⟩ hb.2 ?_)
    exact wpAny_pure ⟨_, rfl, h _⟩
theorem full_ok {p : Addr} {x : Str} {t : Tok} {Q : Value → Shared → Prop} (hp : PatAt s.heap p c82 0) (hx : x.length ≤ 1000000)
    (h : if (x.cps.toList.all isTokCh && !(x.length == 0)) = true then ∀ li, Q (.ref (s.heap.push (sObj [0, x.cps.size])).objs.size) { s with heap := (s.heap.push (sObj [0, x.cps.size])).push (mObj x t p ((0 : Nat) : Int) (x.cps.size : Int) li s.heap.objs.size) } else Q .none s) :
    wpAny (model prog w) A (call (.builtin "re.Pattern.fullmatch") [.ref p, .str x t]) Q E s := by
  obtain ⟨pat, tok, fl, tokf, ca, h1, h2⟩ := id hp
  have hxs : x.cps.size ≤ 1000000 := hx
  refine wpAny_call_entry G.slot_fullmatch ⟨_, h1, rfl⟩ G.entry_fullmatch ?_ (G.args_fullmatch _ _)
  unfold Builtin.«re.Pattern.fullmatch»
  refine wpAny_bind (target_ok hp hx (named_search _ _ _ _) ?_)
  unfold reAnswer
  dsimp only
  by_cases h0 : x.cps.size = 0
  · have hl : x.length = 0 := h0
    rw [if_neg (by rw [hl]; simp)] at h
    obtain ⟨m, e, he⟩ := start82e h0
    rw [e, ← wS_self m]
    exact wpAny_bind (run_end he (by lia) fun b s1 hb => .inr ⟨hb, wpAny_pure ⟨_, rfl, h⟩⟩)
  · obtain ⟨s0, e⟩ := start82 (text := x.cps) (by lia)
    rw [e]
    have hl : (x.length == 0) = false := beq_eq_false_iff_ne.mpr h0
    rw [hl] at h
    cases ha : x.cps.toList.all isTokCh with
    | true =>
      rw [ha, if_pos (by decide)] at h
      refine wpAny_bind (run_end (p82_found (by lia) (by lia) ha) (by lia) fun b s1 hb => .inl ⟨hb.oc, ?_⟩)
      refine wpAny_bind (newMatch0 (m := wS b s1) ⟨hb.oc, hb.st, hb.hd, hb.mks, hb.lm⟩ ?_)
      exact wpAny_pure ⟨_, rfl, h _⟩
    | false =>
      rw [ha, if_neg (by decide)] at h
      exact wpAny_bind (run_end (p82_none (by lia) ha) (by lia) fun b s1 hb => .inr ⟨hb, wpAny_pure ⟨_, rfl, h⟩⟩)
theorem found_ok {a st : Addr} {x : Str} {t : Tok} {p : Addr} {pos lim li : Int} {l : List Nat} {Q : ReFound → Shared → Prop} (hm : s.heap.get? a = some (mObj x t p pos lim li st)) (hs : s.heap.get? st = some (sObj l))
    (h : Q { fields := #[.str x t, .ref p, rawInt pos, rawInt lim, rawInt li, .ref st], spans := (l.map fun (n : Nat) => (n : Int)).toArray } s) : wpAny (model prog w) A (reFound (.ref a)) Q E s := by
  unfold reFound
  refine wpAny_bind (wpAny_fieldsOf hm rfl ?_)
  refine wpAny_bind (rawItems_ok (a := st) hs rfl ?_)
  have : ((l.map fun (n : Nat) => rawInt (n : Int)).toArray.map reRawOf) = (l.map fun (n : Nat) => (n : Int)).toArray := by
    apply Array.toList_inj.mp; simp [reRawOf, rawInt, Function.comp_def]
  rw [this]
  exact wpAny_pure h
theorem span_ok {a st : Addr} {x : Str} {t u : Tok} {p : Addr} {b e : Nat} {pos lim li : Int} {l : List Nat} {Q : Value → Shared → Prop} (hm : s.heap.get? a = some (mObj x t p pos lim li st)) (hs : s.heap.get? st = some (sObj (b :: e :: l)))
    (h : Q (.ref s.heap.objs.size) { s with heap := s.heap.push { cls := .type "tuple", data := .seq #[.int b s.toks, .int e (s.toks + 1)] }, toks := s.toks + 1 + 1 }) : wpAny (model prog w) A (call (.builtin "re.Match.span") [.ref a, .int 0 u]) Q E s := by
  refine wpAny_call_entry G.slot_span ⟨_, hm, rfl⟩ G.entry_span ?_ (G.args_span _ _)
  unfold Builtin.«re.Match.span» reOneGroup
  refine wpAny_bind (wpAny_bind (wpAny_of_eq (a := (.ref a, [.int 0 u])) (by kernel_rfl) ?_))
  refine wpAny_bind (found_ok hm hs ?_)
  dsimp only
  have hsz : ((b :: e :: l).map fun (n : Nat) => (n : Int)).toArray.size = l.length + 2 := by simp
  unfold reGroupNumber
  refine wpAny_bind (wpAny_bind (wpAny_of_eq (a := some (0 : Int)) (by rfl) ?_))
  rw [if_pos (by rfl)]
  refine wpAny_bind (wpAny_of_eq (a := (0 : Int)) (by rfl) ?_)
  dsimp only
  rw [if_neg (by rw [hsz]; simp; lia)]
  refine wpAny_pure (wpAny_pure ?_)
  refine wpAny_bind (wpAny_mkInt (wpAny_bind (wpAny_mkInt (wpAny_bind (wpAny_newTuple ?_)))))
  exact wpAny_pure ⟨_, rfl, h⟩
theorem group_ok {a st : Addr} {x : Str} {t u : Tok} {p : Addr} {b e c d : Nat} {pos lim li : Int} {l : List Nat} {Q : Value → Shared → Prop} (hm : s.heap.get? a = some (mObj x t p pos lim li st)) (hs : s.heap.get? st = some (sObj (b :: e :: c :: d :: l)))
    (hx : x.length ≤ 1000000) (h : ∀ t' k, Q (.str ⟨x.cps.extract c d⟩ t') { s with toks := k }) : wpAny (model prog w) A (call (.builtin "re.Match.group") [.ref a, .int 1 u]) Q E s := by
  refine wpAny_call_entry G.slot_group ⟨_, hm, rfl⟩ G.entry_group ?_ (G.args_group _ _)
  unfold Builtin.«re.Match.group»
  refine wpAny_bind (wpAny_of_eq (a := ()) (by first | rfl | kernel_rfl) ?_)
  refine wpAny_bind (found_ok hm hs ?_)
  dsimp only
  have hsz : ((b :: e :: c :: d :: l).map fun (n : Nat) => (n : Int)).toArray.size = l.length + 4 := by simp
  unfold reGroupNumber
  refine wpAny_bind (wpAny_bind (wpAny_of_eq (a := some (1 : Int)) (by rfl) ?_))
  rw [if_pos (by rfl)]
  refine wpAny_bind (wpAny_of_eq (a := (1 : Int)) (by rfl) ?_)
  dsimp only
  rw [if_neg (by rw [hsz]; simp; lia)]
  refine wpAny_pure ?_
  unfold reGroupText
  show wpAny _ _ ((if (decide (((c : Nat) : Int) < 0) || decide (((d : Nat) : Int) < 0)) = true then _ else _) >>= _) _ _ _
  rw [if_neg (by
    have h1 : ¬ ((c : Nat) : Int) < 0 := by lia
    have h2 : ¬ ((d : Nat) : Int) < 0 := by lia
    rw [decide_eq_false h1, decide_eq_false h2]; exact Bool.false_ne_true)]
  refine wpAny_bind (wpAny_bind (wpAny_of_eq (a := (x.cps, 0)) rfl ?_))
  show wpAny _ _ (mkStr ⟨x.cps.extract ((c : Nat) : Int).toNat ((d : Nat) : Int).toNat⟩) _ _ _
  rw [Int.toNat_natCast, Int.toNat_natCast]
  refine wpAny_mkStr (wpAny_pure ⟨_, rfl, h _ _⟩) ?_
  show (x.cps.extract c d).size ≤ sizeLine
  have h1 : x.cps.size ≤ 1000000 := hx
  rw [Array.size_extract, sizeLine_eq]
  lia
theorem fn_call : typeLookup (.type "function") "__call__" = pure (some (.builtin "function.__call__")) := by rw [typeLookup_type, builtinLookup_eq_fast]; kernel_rfl
theorem str_no_ba : isSubtype (.type "str") (.type "bytearray") = pure false := by rw [isSubtype_type]; kernel_rfl
theorem whole_str (x : Str) : (⟨x.cps.extract 0 x.cps.size⟩ : Str) = x := by
  cases x; congr 1; exact Array.extract_size
theorem loop_last {R : Result → Shared → Prop} {p : Addr} {code : Array Nat} {g : Nat} {x : Str} {t : Tok} {repl : Value} {way n d st : Nat} {must wc : Bool} {ld : Addr} {k0 : Nat} {ps : List (Str × Tok)} (hp : PatAt s.heap p code g) (hx : x.length ≤ 1000000)
    (hway : way = 1 ∨ (way = 0 ∧ ∃ y u, repl = .str y u)) (hst : st = d) (hd : d ≤ x.cps.size) (hps : (ps.map (·.1.length)).sum + ps.length ≤ 1000)
    (hl : s.heap.get? ld = some { cls := .type "list", data := .seq (strValues ps).toArray k0 })
    {m : Sre.M} {s0 : Sre.Seen} (hm : Sre.forSearch code x.cps g st x.cps.size must = wS m s0) (hr : Ends (3 * x.cps.size + 30) m fun b => b.outcome = some .failed)
    (h : ∀ h' t' k, (∀ b o, b ≠ ld → s.heap.get? b = some o → h'.get? b = some o) → h'.objs.size = s.heap.objs.size → 
      if wc = true then R (.ok (.ret (.ref h'.objs.size))) { s with heap := h'.push { cls := .type "tuple", data := .seq #[.str (Txt.join Str.empty (ps.map (·.1) ++ if d < x.cps.size then [⟨x.cps.extract d x.cps.size⟩] else [])) t', .int n k] }, toks := k + 1 }
      else R (.ok (.ret (.str (Txt.join Str.empty (ps.map (·.1) ++ if d < x.cps.size then [⟨x.cps.extract d x.cps.size⟩] else [])) t'))) { s with heap := h', toks := k }) :
    codeAny (model prog w) A (.builtin "re.Pattern.sub.loop" ⟨[.ref p, .str x t, repl, rawInt way, rawInt (0 : Int), rawInt n, rawInt d, rawInt st, .bool must, .ref ld, .bool wc], []⟩) R s := by
  subst hst
  have hxs : x.cps.size ≤ 1000000 := hx
  refine codeAny_builtin G.entry_loop ?_
  generalize hA : A.under (.builtin "re.Pattern.sub.loop" ⟨[.ref p, .str x t, repl, rawInt way, rawInt (0 : Int), rawInt n, rawInt st, rawInt st, .bool must, .ref ld, .bool wc], []⟩) = A'
  show wpAny _ _ (reWholeTarget (.ref p) (.str x t) >>= fun t => _) _ _ _
  refine wpAny_bind (wholeTarget_ok hp ?_)
  have fin : ∀ (h' : Heap) (ps' : List (Str × Tok)) (k1 tk : Nat), (∀ b o, b ≠ ld → s.heap.get? b = some o → h'.get? b = some o) → h'.objs.size = s.heap.objs.size →
      ps'.map (·.1) = ps.map (·.1) ++ (if st < x.cps.size then [⟨x.cps.extract st x.cps.size⟩] else []) → h'.get? ld = some { cls := .type "list", data := .seq (strValues ps').toArray k1 } →
      wpAny (model prog w) A' (do
        let joiner ← reSlice x.cps 0 0 0
        let text ← if ((← seqItems? (.ref ld)).getD #[]).isEmpty then pure joiner
          else call (.builtin (if (0 : Nat) == 0 then "str.join" else "bytes.join")) [joiner, .ref ld]
        if wc then ret (← holding [text] do newTuple [text, ← mkInt n]) else ret text)
      (fun fin s' => match fin with | .done f => R (.ok f) s' | .again c' => c'.quiet = true ∧ codeAny (model prog w) A c' R s') (fun e s' => R (.error e) s') { s with heap := h', toks := tk } := by
    intro h' ps' k1 tk hk hsz' hps' hl'
    have hj : (⟨x.cps.extract 0 0⟩ : Str) = Str.empty := by
      show (⟨x.cps.extract 0 0⟩ : Str) = ⟨#[]⟩
      congr 1; apply Array.eq_empty_of_size_eq_zero; simp
    refine wpAny_bind (wpAny_mkStr (x := ⟨x.cps.extract 0 0⟩) ?_ (by rw [hj]; exact Nat.zero_le _))
    refine wpAny_bind (wpAny_seqItems hl' rfl ?_)
    have tail : ∀ t' k, wpAny (model prog w) A' (if wc = true then (do let r ← holding [.str (Txt.join Str.empty (ps'.map (·.1))) t'] (do let i ← mkInt n; newTuple [.str (Txt.join Str.empty (ps'.map (·.1))) t', i]); ret r) else ret (.str (Txt.join Str.empty (ps'.map (·.1))) t'))
        (fun fin s' => match fin with | .done f => R (.ok f) s' | .again c' => c'.quiet = true ∧ codeAny (model prog w) A c' R s') (fun e s' => R (.error e) s') { s with heap := h', toks := k } := by
      intro t' k
      have hh := h h' t' k hk hsz'
      rw [← hps'] at hh
      cases wc with
      | true => exact wpAny_bind (wpAny_holding (wpAny_bind (wpAny_mkInt (wpAny_newTuple (wpAny_pure hh)))))
      | false => exact wpAny_pure hh
    by_cases he : ps' = []
    · subst he
      rw [if_pos (by rfl)]
      refine wpAny_bind (wpAny_pure ?_)
      rw [hj]
      exact tail _ _
    · have : ¬ (((some (strValues ps').toArray).getD #[]).isEmpty = true) := by
        cases ps' with
        | nil => exact absurd rfl he
        | cons a r => simp [strValues]
      rw [if_neg this]
      rw [hj]
      refine wpAny_bind (SC.join (D := ld) (l := ps') ⟨_, hl', rfl, _, rfl⟩ rfl ?_ fun t' k => tail t' k)
      unfold JoinOk
      rw [StrLaws.joinTotal, hps']
      have hs : ((ps.map (·.1) ++ (if st < x.cps.size then [(⟨x.cps.extract st x.cps.size⟩ : Str)] else [])).map (·.length)).sum ≤ 1000 + 1000000 := by
        rw [List.map_append, List.sum_append, List.map_map]
        have h1 : (ps.map ((fun (y : Str) => y.length) ∘ (·.1))).sum ≤ 1000 := by have := hps; exact Nat.le_trans (Nat.le_add_right _ _) hps
        have h2 : ((if st < x.cps.size then [(⟨x.cps.extract st x.cps.size⟩ : Str)] else []).map (·.length)).sum ≤ 1000000 := by
          split
          · show (x.cps.extract st x.cps.size).size + 0 ≤ 1000000
            rw [Array.size_extract]; lia
          · exact Nat.zero_le _
        lia
      have he : Str.empty.length = 0 := rfl
      rw [he, Nat.mul_zero, Nat.add_zero]
      have : Str.tooLong (((ps.map (·.1) ++ (if st < x.cps.size then [(⟨x.cps.extract st x.cps.size⟩ : Str)] else [])).map (·.length)).sum) = false := by
        unfold Str.tooLong; rw [sizeLine_eq]; exact decide_eq_false (by lia)
      rw [this]; rfl
  have main : ∀ {Q : Option Sre.M → Shared → Prop}, Q none s → wpAny (model prog w) A' (reNextFound { pattern := Value.ref p, string := Value.str x t, code := code, text := x.cps, kind := 0, groups := g, pos := 0, lim := x.cps.size } ((st : Nat) : Int).toNat must)
      Q (fun e s' => R (.error e) s') s := by
    intro Q q
    unfold reNextFound
    dsimp only
    rw [Int.toNat_natCast, hm]
    exact run_end hr (by lia) fun b s1 hb => .inr ⟨hb, q⟩
  have stop : wpAny (model prog w) A' (if ((st : Nat) : Int).toNat < x.cps.size then do
        updateSeq ld (·.push (← reSlice x.cps 0 ((st : Nat) : Int).toNat x.cps.size))
        let joiner ← reSlice x.cps 0 0 0
        let text ← if ((← seqItems? (.ref ld)).getD #[]).isEmpty then pure joiner
          else call (.builtin (if (0 : Nat) == 0 then "str.join" else "bytes.join")) [joiner, .ref ld]
        if wc then ret (← holding [text] do newTuple [text, ← mkInt n]) else ret text
      else do
        let joiner ← reSlice x.cps 0 0 0
        let text ← if ((← seqItems? (.ref ld)).getD #[]).isEmpty then pure joiner
          else call (.builtin (if (0 : Nat) == 0 then "str.join" else "bytes.join")) [joiner, .ref ld]
        if wc then ret (← holding [text] do newTuple [text, ← mkInt n]) else ret text)
      (fun fin s' => match fin with | .done f => R (.ok f) s' | .again c' => c'.quiet = true ∧ codeAny (model prog w) A c' R s') (fun e s' => R (.error e) s') s := by
    rw [Int.toNat_natCast]
    by_cases hlt : st < x.cps.size
    · rw [if_pos hlt] at fin ⊢
      refine wpAny_bind (wpAny_mkStr (x := ⟨x.cps.extract st x.cps.size⟩) ?_ (by
        show (x.cps.extract st x.cps.size).size ≤ sizeLine
        rw [Array.size_extract, sizeLine_eq]; lia))
      have hz0 : (strValues ps).toArray.size ≤ 1000 := by
        rw [List.size_toArray]; show (ps.map _).length ≤ 1000
        rw [List.length_map]; lia
      refine wpAny_bind (wpAny_updateSeq hl rfl ?_ (by rw [sizeLine_eq]; lia) (by rw [Array.size_push, sizeLine_eq]; lia))
      have hm2 : ∃ n', Obj.mapSeq (·.push (.str ⟨x.cps.extract st x.cps.size⟩ s.toks)) { cls := .type "list", data := .seq (strValues ps).toArray k0 } = { cls := .type "list", data := .seq ((strValues ps).toArray.push (.str ⟨x.cps.extract st x.cps.size⟩ s.toks)) n' } := ⟨_, by simp [Obj.mapSeq]; rfl⟩
      obtain ⟨n', hm2⟩ := hm2
      refine fin _ (ps ++ [(⟨x.cps.extract st x.cps.size⟩, s.toks)]) n' _ (fun b o hb e => (Heap.get?_update_ne _ _ _ _ hb).trans e) (Heap.size_update ..) (by simp) ?_
      rw [Heap.get?_update_self _ hl (by rw [hm2]; rfl), hm2]
      congr 3
      apply Array.toList_inj.mp; simp [strValues]
    · rw [if_neg hlt] at fin ⊢
      exact fin s.heap ps k0 s.toks (fun b o _ e => e) rfl (by simp) hl
  refine wp_may (fun hc => ?_) (wpAny_bind (wp_no (by simp) (main stop)))
  rcases hway with e0_ | ⟨_, y, u, e1_⟩
  · rw [e0_] at hc; exact absurd hc (by decide)
  · rw [e1_]; rfl
theorem sub_none {p : Addr} {code : Array Nat} {g : Nat} {x : Str} {t : Tok} {la : Addr} {Q : Value → Shared → Prop} (hp : PatAt s.heap p code g) (hx : x.length ≤ 1000000)
    {m : Sre.M} {s0 : Sre.Seen} (hm : Sre.forSearch code x.cps g 0 x.cps.size false = wS m s0) (hr : Ends (3 * x.cps.size + 30) m fun b => b.outcome = some .failed)
    {o : Obj} (hf : s.heap.get? la = some o) (hc : o.cls = .type "function")
    (h : ∀ h' t' k, (∀ b o, s.heap.get? b = some o → h'.get? b = some o) → Q (.str x t') { s with heap := h', toks := k }) : wpAny (model prog w) A (call (.builtin "re.Pattern.sub") [.ref p, .ref la, .str x t]) Q E s := by
  obtain ⟨pat, tok, fl, tokf, ca, h1, h2⟩ := id hp
  have hxs : x.cps.size ≤ 1000000 := hx
  have hT : s.TypeIs (.ref la) "function" := ⟨_, hf, hc⟩
  refine wpAny_call (codeAny_call_builtin G.slot_sub.plain G.entry_sub (G.slot_sub.check _ _ _ _ _ _ _ _ ⟨_, h1, rfl⟩ (G.args_sub _ _ _) ?_))
  unfold Builtin.«re.Pattern.sub» reSubstitute
  dsimp only
  refine wpAny_bind (wpAny_of_eq (a := [some (.ref la), some (.str x t), none]) (by first | rfl | kernel_rfl) ?_)
  dsimp only
  refine wpAny_bind (wpAny_pure ?_)
  refine wpAny_bind (wpAny_specialOf hT fn_call ?_)
  rw [if_pos (by rfl)]
  refine wpAny_bind (wpAny_pure ?_)
  rw [if_pos (by rfl)]
  refine wpAny_bind (wpAny_pure ?_)
  dsimp only
  refine wpAny_bind (wpAny_holding (wholeTarget_ok hp ?_))
  rw [if_pos (by rfl)]
  unfold reNotHeld
  refine wpAny_bind (wpAny_bind (wpAny_isInstance (typeIs_str _ _ _) str_no_ba ?_))
  rw [if_neg (by decide)]
  refine wpAny_pure ?_
  refine wpAny_bind (wpAny_newList (items := []) ?_)
  have hk1 : ∀ b o, s.heap.get? b = some o → (s.heap.push { cls := .type "list", data := .seq ([] : List Value).toArray }).get? b = some o := fun b o e => Heap.get?_push_of_some _ e
  refine wpAny_pure ⟨Code.quiet_builtin _ (by decide +kernel), loop_last (ps := []) (way := 1) (n := 0) (d := 0) (st := 0) (s := { s with heap := s.heap.push { cls := .type "list", data := .seq ([] : List Value).toArray } }) (hp.keeps hk1) hx (.inl rfl) rfl (Nat.zero_le _) (by decide)
    (Heap.get?_push_size _ rfl) hm hr fun h' t' k hk _ => ?_⟩
  rw [if_neg (by decide)]
  have hj : Txt.join Str.empty (([] : List (Str × Tok)).map (·.1) ++ if 0 < x.cps.size then [(⟨x.cps.extract 0 x.cps.size⟩ : Str)] else []) = x := by
    by_cases h0 : 0 < x.cps.size
    · rw [if_pos h0, whole_str]; rfl
    · rw [if_neg h0]
      have : x.cps = #[] := Array.eq_empty_of_size_eq_zero (by lia)
      show (⟨#[]⟩ : Str) = x
      cases x; congr 1; exact this.symm
  rw [hj]
  exact h h' t' k fun b o e => hk b o (fun z => by rw [z] at e; exact absurd (Heap.lt_size e) (Nat.lt_irrefl _)) (hk1 b o e)
end
end Mine
end
section
namespace Mine
open PySem PySem.W PyProof.Rows PySem.Calls Builtin Builtin.Re
section
variable {prog : Program} {w : World} {A : Around} {E : Value → Shared → Prop} {s : Shared}
end
end Mine
end
section
namespace Mine
open PySem PySem.W PyProof.Rows PySem.Calls PySem.SeqAt Builtin.ObjectAttr
noncomputable def bmKind (id : String) : String := if id = "list.append" then "builtin_function_or_method" else "method-wrapper"
noncomputable def bmObj (id : String) (a : Addr) : Obj := { cls := .type (bmKind id), data := .fields #[.builtin id, .ref a] }
namespace G
theorem typeOf_list_append : typeOf (.builtin "list.append") = pure (.type "method_descriptor") := by kernel_rfl
theorem typeOf_li_next : typeOf (.builtin "list_iterator.__next__") = pure (.type "wrapper_descriptor") := by kernel_rfl
theorem typeOf_match_string : typeOf (.builtin "re.Match.string") = pure (.type "member_descriptor") := by kernel_rfl
theorem lk_list_append : typeLookup (.type "list") "append" = pure (some (.builtin "list.append")) := by rw [typeLookup_type, builtinLookup_eq_fast]; kernel_rfl
theorem lk_li_next : typeLookup (.type "list_iterator") "__next__" = pure (some (.builtin "list_iterator.__next__")) := by rw [typeLookup_type, builtinLookup_eq_fast]; kernel_rfl
theorem lk_match_string : typeLookup (.type "re.Match") "string" = pure (some (.builtin "re.Match.string")) := by rw [typeLookup_type, builtinLookup_eq_fast]; kernel_rfl
theorem slot_md_get : Slot "method_descriptor" "__get__" "method_descriptor.__get__" := (.of (owner := "method_descriptor") (n := "__get__") (by rw [typeLookup_type, builtinLookup_eq_fast]; kernel_rfl) (by decide +kernel) (by decide +kernel) (by decide +kernel) (by first | exact .inl (by decide +kernel) | exact .inr (by decide +kernel)) (by rw [isSubtype_type]; kernel_rfl))
theorem entry_md_get : entryFor table "method_descriptor.__get__" = some Builtin.«method_descriptor.__get__» := entryFor_of_tree (by kernel_rfl)
theorem args_md_get (a b c : Value) : argsOk "method_descriptor.__get__" ⟨[a, b, c], []⟩ := by unfold argsOk; kernel_rfl
theorem md_noset : typeLookup (.type "method_descriptor") "__set__" = pure none := by rw [typeLookup_type, builtinLookup_eq_fast]; kernel_rfl
theorem md_nodel : typeLookup (.type "method_descriptor") "__delete__" = pure none := by rw [typeLookup_type, builtinLookup_eq_fast]; kernel_rfl
theorem slot_wd_get : Slot "wrapper_descriptor" "__get__" "wrapper_descriptor.__get__" := (.of (owner := "wrapper_descriptor") (n := "__get__") (by rw [typeLookup_type, builtinLookup_eq_fast]; kernel_rfl) (by decide +kernel) (by decide +kernel) (by decide +kernel) (by first | exact .inl (by decide +kernel) | exact .inr (by decide +kernel)) (by rw [isSubtype_type]; kernel_rfl))
theorem entry_wd_get : entryFor table "wrapper_descriptor.__get__" = some Builtin.«wrapper_descriptor.__get__» := entryFor_of_tree (by kernel_rfl)
theorem args_wd_get (a b c : Value) : argsOk "wrapper_descriptor.__get__" ⟨[a, b, c], []⟩ := by unfold argsOk; kernel_rfl
theorem wd_noset : typeLookup (.type "wrapper_descriptor") "__set__" = pure none := by rw [typeLookup_type, builtinLookup_eq_fast]; kernel_rfl
theorem wd_nodel : typeLookup (.type "wrapper_descriptor") "__delete__" = pure none := by rw [typeLookup_type, builtinLookup_eq_fast]; kernel_rfl
theorem slot_mem_get : Slot "member_descriptor" "__get__" "member_descriptor.__get__" := (.of (owner := "member_descriptor") (n := "__get__") (by rw [typeLookup_type, builtinLookup_eq_fast]; kernel_rfl) (by decide +kernel) (by decide +kernel) (by decide +kernel) (by first | exact .inl (by decide +kernel) | exact .inr (by decide +kernel)) (by rw [isSubtype_type]; kernel_rfl))
theorem slot_mem_set : Slot "member_descriptor" "__set__" "member_descriptor.__set__" := (.of (owner := "member_descriptor") (n := "__set__") (by rw [typeLookup_type, builtinLookup_eq_fast]; kernel_rfl) (by decide +kernel) (by decide +kernel) (by decide +kernel) (by first | exact .inl (by decide +kernel) | exact .inr (by decide +kernel)) (by rw [isSubtype_type]; kernel_rfl))
theorem entry_mem_get : entryFor table "member_descriptor.__get__" = some Builtin.«member_descriptor.__get__» := entryFor_of_tree (by kernel_rfl)
theorem args_mem_get (a b c : Value) : argsOk "member_descriptor.__get__" ⟨[a, b, c], []⟩ := by unfold argsOk; kernel_rfl
theorem owner_list_append : (".".intercalate ("list.append".cutAt '.').dropLast) = "list" := by
  have e0 : "list.append".cutAt '.' = ["list", "append"] := by first | rfl | decide +kernel
  rw [e0]; decide +kernel
theorem sub_list_append : isSubtype (.type "list") (.type (".".intercalate ("list.append".cutAt '.').dropLast)) = pure true := by
  rw [owner_list_append, isSubtype_type]; kernel_rfl
theorem owner_li_next : (".".intercalate ("list_iterator.__next__".cutAt '.').dropLast) = "list_iterator" := by
  have e0 : "list_iterator.__next__".cutAt '.' = ["list_iterator", "__next__"] := by first | rfl | decide +kernel
  rw [e0]; decide +kernel
theorem sub_li_next : isSubtype (.type "list_iterator") (.type (".".intercalate ("list_iterator.__next__".cutAt '.').dropLast)) = pure true := by
  rw [owner_li_next, isSubtype_type]; kernel_rfl
theorem owner_match_string : (".".intercalate ("re.Match.string".cutAt '.').dropLast) = "re.Match" := by
  have e0 : "re.Match.string".cutAt '.' = ["re", "Match", "string"] := by first | rfl | decide +kernel
  rw [e0]; decide +kernel
theorem sub_match_string : isSubtype (.type "re.Match") (.type (".".intercalate ("re.Match.string".cutAt '.').dropLast)) = pure true := by
  rw [owner_match_string, isSubtype_type]; kernel_rfl
theorem slot_li_ga : Slot "list_iterator" "__getattribute__" "object.__getattribute__" := (.of (owner := "object") (n := "__getattribute__") (by rw [typeLookup_type, builtinLookup_eq_fast]; kernel_rfl) (by decide +kernel) (by decide +kernel) (by decide +kernel) (by first | exact .inl (by decide +kernel) | exact .inr (by decide +kernel)) (by rw [isSubtype_type]; kernel_rfl))
theorem slot_match_ga : Slot "re.Match" "__getattribute__" "object.__getattribute__" := (.of (owner := "object") (n := "__getattribute__") (by rw [typeLookup_type, builtinLookup_eq_fast]; kernel_rfl) (by decide +kernel) (by decide +kernel) (by decide +kernel) (by first | exact .inl (by decide +kernel) | exact .inr (by decide +kernel)) (by rw [isSubtype_type]; kernel_rfl))
theorem entry_match_string : entryFor table "re.Match.string" = some Builtin.«re.Match.string» := entryFor_of_tree (by kernel_rfl)
end G
section
variable {prog : Program} {w : World} {A : Around} {E : Value → Shared → Prop} {h : Heap} {g : Array GenState} {d : Drawn} {t : Nat} {os : OsState} {a : Addr} {o : Obj}
theorem md_get_list {R : Result → Shared → Prop} (hx : h.get? a = some o) (hc : o.cls = .type "list") (hq : R (.ok (.ret (.ref h.objs.size))) ⟨h.push (bmObj "list.append" a), g, d, t, os⟩) :
    codeAny (model prog w) A (.call (.builtin "method_descriptor.__get__") ⟨[.builtin "list.append", .ref a, .type "list"], []⟩) R ⟨h, g, d, t, os⟩ := by
  have hT : (⟨h, g, d, t, os⟩ : Shared).TypeIs (.ref a) "list" := ⟨_, hx, hc⟩
  have hT5 : (⟨h, g, d, t, os⟩ : Shared).TypeIs (.builtin "list.append") "method_descriptor" := G.typeOf_list_append
  have f1 := G.sub_list_append
  refine codeAny_call_builtin G.slot_md_get.plain G.entry_md_get (G.slot_md_get.check _ _ _ _ _ _ _ _ hT5 (G.args_md_get _ _ _) ?_)
  unfold Builtin.«method_descriptor.__get__»
  repeat (any_goals (first | assumption | wp_step))
  all_goals exact hq
theorem md_entry_list {tk : Tok} {its : Array Value} {n : Nat} {Q : Fin → Shared → Prop} (hx : h.get? a = some { cls := .type "list", data := .seq its n }) (hq : Q (.done (.ret (.ref h.objs.size))) ⟨h.push (bmObj "list.append" a), g, d, t, os⟩) :
    wpAny (model prog w) A (Builtin.«object.__getattribute__» ⟨[.ref a, .str "append" tk], []⟩) Q E ⟨h, g, d, t, os⟩ := by
  have hT : (⟨h, g, d, t, os⟩ : Shared).TypeIs (.ref a) "list" := ⟨_, hx, rfl⟩
  have hT5 : (⟨h, g, d, t, os⟩ : Shared).TypeIs (.builtin "list.append") "method_descriptor" := G.typeOf_list_append
  have f4 := G.lk_list_append
  have f5 := G.typeOf_list_append
  have f6 := G.slot_md_get.lookup
  have f7 := G.md_noset
  have f8 := G.md_nodel
  repeat (any_goals (first | assumption | wp_step))
  refine md_get_list hx rfl ?_
  repeat (any_goals (first | assumption | wp_step))
theorem list_append_get {its : Array Value} {n : Nat} {expr : Bool} {Q : Value → Shared → Prop} (hx : h.get? a = some { cls := .type "list", data := .seq its n }) (hq : Q (.ref h.objs.size) ⟨h.push (bmObj "list.append" a), g, d, t + 1, os⟩) :
    wpAny (model prog w) A (getAttr (.ref a) "append" expr) Q E ⟨h, g, d, t, os⟩ := by
  have hT : ∀ t, (⟨h, g, d, t, os⟩ : Shared).TypeIs (.ref a) "list" := fun t => ⟨_, hx, rfl⟩
  have f2 := F.slot_list_getattribute.lookup
  have f3 := F.slot_list_getattribute.bind (.ref a)
  unfold getAttr getAttrBy
  repeat (any_goals (first | assumption | (with_reducible refine wpAny_typeOf (hT _) ?_) | wp_step))
  rw [if_neg (by cases expr <;> exact Bool.false_ne_true)]
  repeat (any_goals (first | assumption | wp_step))
  refine codeAny_call_builtin F.slot_list_getattribute.plain PySem.F.entry_list_ga (F.slot_list_getattribute.check _ _ _ _ _ _ _ _ (hT _) (F.args_list_getattribute_2 _ _) (md_entry_list hx ?_))
  repeat (any_goals (first | assumption | wp_step))
theorem wd_get_li {R : Result → Shared → Prop} (hx : h.get? a = some o) (hc : o.cls = .type "list_iterator") (hq : R (.ok (.ret (.ref h.objs.size))) ⟨h.push (bmObj "list_iterator.__next__" a), g, d, t, os⟩) :
    codeAny (model prog w) A (.call (.builtin "wrapper_descriptor.__get__") ⟨[.builtin "list_iterator.__next__", .ref a, .type "list_iterator"], []⟩) R ⟨h, g, d, t, os⟩ := by
  have hT : (⟨h, g, d, t, os⟩ : Shared).TypeIs (.ref a) "list_iterator" := ⟨_, hx, hc⟩
  have hT5 : (⟨h, g, d, t, os⟩ : Shared).TypeIs (.builtin "list_iterator.__next__") "wrapper_descriptor" := G.typeOf_li_next
  have f1 := G.sub_li_next
  refine codeAny_call_builtin G.slot_wd_get.plain G.entry_wd_get (G.slot_wd_get.check _ _ _ _ _ _ _ _ hT5 (G.args_wd_get _ _ _) ?_)
  unfold Builtin.«wrapper_descriptor.__get__»
  repeat (any_goals (first | assumption | wp_step))
  all_goals exact hq
theorem wd_entry_li {tk : Tok} {vs : Array Value} {Q : Fin → Shared → Prop} (hx : h.get? a = some { cls := .type "list_iterator", data := .fields vs }) (hq : Q (.done (.ret (.ref h.objs.size))) ⟨h.push (bmObj "list_iterator.__next__" a), g, d, t, os⟩) :
    wpAny (model prog w) A (Builtin.«object.__getattribute__» ⟨[.ref a, .str "__next__" tk], []⟩) Q E ⟨h, g, d, t, os⟩ := by
  have hT : (⟨h, g, d, t, os⟩ : Shared).TypeIs (.ref a) "list_iterator" := ⟨_, hx, rfl⟩
  have hT5 : (⟨h, g, d, t, os⟩ : Shared).TypeIs (.builtin "list_iterator.__next__") "wrapper_descriptor" := G.typeOf_li_next
  have f4 := G.lk_li_next
  have f5 := G.typeOf_li_next
  have f6 := G.slot_wd_get.lookup
  have f7 := G.wd_noset
  have f8 := G.wd_nodel
  repeat (any_goals (first | assumption | wp_step))
  refine wd_get_li hx rfl ?_
  repeat (any_goals (first | assumption | wp_step))
theorem li_next_get {vs : Array Value} {expr : Bool} {Q : Value → Shared → Prop} (hx : h.get? a = some { cls := .type "list_iterator", data := .fields vs }) (hq : Q (.ref h.objs.size) ⟨h.push (bmObj "list_iterator.__next__" a), g, d, t + 1, os⟩) :
    wpAny (model prog w) A (getAttr (.ref a) "__next__" expr) Q E ⟨h, g, d, t, os⟩ := by
  have hT : ∀ t, (⟨h, g, d, t, os⟩ : Shared).TypeIs (.ref a) "list_iterator" := fun t => ⟨_, hx, rfl⟩
  have f2 := G.slot_li_ga.lookup
  have f3 := G.slot_li_ga.bind (.ref a)
  unfold getAttr getAttrBy
  repeat (any_goals (first | assumption | (with_reducible refine wpAny_typeOf (hT _) ?_) | wp_step))
  rw [if_neg (by cases expr <;> exact Bool.false_ne_true)]
  repeat (any_goals (first | assumption | wp_step))
  refine codeAny_call_builtin G.slot_li_ga.plain F.entry_object_getattribute (G.slot_li_ga.check _ _ _ _ _ _ _ _ (hT _) (F.args_object_getattribute_2 _ _) (wd_entry_li hx ?_))
  repeat (any_goals (first | assumption | wp_step))
theorem mem_get_match {R : Result → Shared → Prop} {vs : Array Value} {v : Value} (hx : h.get? a = some { cls := .type "re.Match", data := .fields vs }) (hv : vs[0]? = some v) (hq : R (.ok (.ret v)) ⟨h, g, d, t, os⟩) :
    codeAny (model prog w) A (.call (.builtin "member_descriptor.__get__") ⟨[.builtin "re.Match.string", .ref a, .type "re.Match"], []⟩) R ⟨h, g, d, t, os⟩ := by
  have hT : (⟨h, g, d, t, os⟩ : Shared).TypeIs (.ref a) "re.Match" := ⟨_, hx, rfl⟩
  have hT5 : (⟨h, g, d, t, os⟩ : Shared).TypeIs (.builtin "re.Match.string") "member_descriptor" := G.typeOf_match_string
  have f1 := G.sub_match_string
  refine codeAny_call_builtin G.slot_mem_get.plain G.entry_mem_get (G.slot_mem_get.check _ _ _ _ _ _ _ _ hT5 (G.args_mem_get _ _ _) ?_)
  unfold Builtin.«member_descriptor.__get__»
  repeat (any_goals (first | assumption | wp_step))
  refine ⟨Code.quiet_builtin _ (by decide +kernel), codeAny_builtin G.entry_match_string ?_⟩
  unfold Builtin.«re.Match.string»
  exact wpAny_bind (wpAny_field hx rfl hv (wpAny_pure hq))
theorem mem_entry_match {tk : Tok} {vs : Array Value} {v : Value} {Q : Fin → Shared → Prop} (hx : h.get? a = some { cls := .type "re.Match", data := .fields vs }) (hv : vs[0]? = some v) (hq : Q (.done (.ret v)) ⟨h, g, d, t, os⟩) :
    wpAny (model prog w) A (Builtin.«object.__getattribute__» ⟨[.ref a, .str "string" tk], []⟩) Q E ⟨h, g, d, t, os⟩ := by
  have hT : (⟨h, g, d, t, os⟩ : Shared).TypeIs (.ref a) "re.Match" := ⟨_, hx, rfl⟩
  have hT5 : (⟨h, g, d, t, os⟩ : Shared).TypeIs (.builtin "re.Match.string") "member_descriptor" := G.typeOf_match_string
  have f4 := G.lk_match_string
  have f5 := G.typeOf_match_string
  have f6 := G.slot_mem_get.lookup
  have f7 := G.slot_mem_set.lookup
  repeat (any_goals (first | assumption | wp_step))
  refine mem_get_match hx hv ?_
  repeat (any_goals (first | assumption | wp_step))
theorem match_string_get {vs : Array Value} {x : Str} {u : Tok} {expr : Bool} {Q : Value → Shared → Prop} (hx : h.get? a = some { cls := .type "re.Match", data := .fields vs }) (hv : vs[0]? = some (.str x u)) (hq : Q (.str x u) ⟨h, g, d, t + 1, os⟩) :
    wpAny (model prog w) A (getAttr (.ref a) "string" expr) Q E ⟨h, g, d, t, os⟩ := by
  have hT : ∀ t, (⟨h, g, d, t, os⟩ : Shared).TypeIs (.ref a) "re.Match" := fun t => ⟨_, hx, rfl⟩
  have f2 := G.slot_match_ga.lookup
  have f3 := G.slot_match_ga.bind (.ref a)
  unfold getAttr getAttrBy
  repeat (any_goals (first | assumption | (with_reducible refine wpAny_typeOf (hT _) ?_) | wp_step))
  rw [if_neg (by cases expr <;> exact Bool.false_ne_true)]
  repeat (any_goals (first | assumption | wp_step))
  refine codeAny_call_builtin G.slot_match_ga.plain F.entry_object_getattribute (G.slot_match_ga.check _ _ _ _ _ _ _ _ (hT _) (F.args_object_getattribute_2 _ _) (mem_entry_match hx hv ?_))
  repeat (any_goals (first | assumption | wp_step))
end
end Mine
end
section
namespace Mine
open PySem PySem.W PyProof.Rows PySem.Calls PySem.SeqAt Builtin Builtin.Str
theorem sub_KeyError_Lookup : isSubtype (.type "KeyError") (.type "LookupError") = pure true := by rw [isSubtype_type]; kernel_rfl
section
variable {prog : Program} {w : World} {A : Around} {E : Value → Shared → Prop} {s : Shared} {d : Addr}
theorem tab_miss {c : Nat} {f : Int → Option Value} {Q : Mapped → Shared → Prop} (hd : (d == sysModules) = false) (hh : A.handled = none) (hm : s.heap.MapOf (intKind prog w) d f) (hv : f c = none)
    (h : ∀ h' k, (∀ b o, s.heap.get? b = some o → h'.get? b = some o) → Q .keep { s with heap := h', toks := k }) : wpAny (model prog w) A (tableLookup (.ref d) c) Q E s := by
  unfold tableLookup
  refine wpAny_bind (wpAny_attempt (wpAny_bind (wpAny_mkInt ?_)))
  refine wpAny_getItem_missing_of (intKind_is _ _ _ _) hd hh (s := { s with toks := s.toks + 1 }) hm hv fun h' e hx => ?_
  have f1 := sub_KeyError_Lookup
  obtain ⟨ob, t', he, hcl, -⟩ := hx.there
  have hT : Shared.TypeIs { s with heap := h', toks := s.toks + 1 + 1 } (.ref e) "KeyError" := ⟨_, he, hcl⟩
  have hk := h h' (s.toks + 1 + 1) hx.keeps
  dsimp only
  refine wpAny_bind (wpAny_isInstance hT f1 ?_)
  exact wpAny_bind (wpAny_rule (wpAny_pure hk))
theorem tab_hit {c : Nat} {f : Int → Option Value} {x : Str} {t : Tok} {Q : Mapped → Shared → Prop} (hd : (d == sysModules) = false) (hm : s.heap.MapOf (intKind prog w) d f) (hv : f c = some (.str x t))
    (h : ∀ k, Q (.text x) { s with toks := k }) : wpAny (model prog w) A (tableLookup (.ref d) c) Q E s := by
  unfold tableLookup
  refine wpAny_bind (wpAny_attempt (wpAny_bind (wpAny_mkInt ?_)))
  refine wpAny_getItem_of (intKind_is _ _ _ _) (s := { s with toks := s.toks + 1 }) hm hv ?_
  dsimp only
  refine wpAny_bind (wpAny_of_eq (a := none) (by first | rfl | kernel_rfl) ?_)
  dsimp only
  refine wpAny_bind (wpAny_of_eq (a := some x) (by first | rfl | kernel_rfl) ?_)
  exact wpAny_pure (h _)
theorem translate_keep {c : Nat} {t : Tok} {f : Int → Option Value} {Q : Value → Shared → Prop} (hc : c < 128) (hd : (d == sysModules) = false) (hh : A.handled = none) (hm : s.heap.MapOf (intKind prog w) d f) (hv : f c = none)
    (h : ∀ h' t' k, (∀ b o, s.heap.get? b = some o → h'.get? b = some o) → Q (.str ⟨#[c]⟩ t') { s with heap := h', toks := k }) : wpAny (model prog w) A (call (.builtin "str.translate") [.str ⟨#[c]⟩ t, .ref d]) Q E s := by
  refine wpAny_call_entry PySem.F.slot_str_translate (typeIs_str _ _ _) PySem.F.entry_str_translate ?_ (PySem.F.args_str_translate_2 _ _)
  unfold Builtin.«str.translate»
  refine wpAny_bind (wpAny_of_eq (a := (.str ⟨#[c]⟩ t, ⟨#[c]⟩, .ref d)) (by first | rfl | kernel_rfl) ?_)
  dsimp only
  rw [if_neg (show ¬ ((({ cps := #[c] } : Str).length == 0) = true) from Bool.false_ne_true)]
  simp only [List.forIn_toArray, List.forIn_cons, List.forIn_nil]
  refine wpAny_bind (wpAny_bind ?_)
  have hall : (#[c].all fun x => decide (x < 128)) = true := by simp [hc]
  rw [hall]
  rw [if_neg (show ¬ tooLong 0 = true by decide)]
  simp only [List.lookup_nil, if_true]
  refine wpAny_bind (tab_miss (A := A.in1) hd hh hm hv fun h' k hk => ?_)
  refine wpAny_pure (wpAny_pure ?_)
  rw [if_neg (show ¬ tooLong (0 + 1) = true by decide)]
  show wpAny _ _ (retStr ⟨#[c]⟩) _ _ _
  unfold retStr
  exact wpAny_bind (wpAny_mkStr (wpAny_pure ⟨_, rfl, h _ _ _ hk⟩))
theorem translate_hit {c : Nat} {t u : Tok} {f : Int → Option Value} {Q : Value → Shared → Prop} (hc : c < 128) (hd : (d == sysModules) = false) (hm : s.heap.MapOf (intKind prog w) d f) (hv : f c = some (.str ⟨#[92, c]⟩ u))
    (h : ∀ t' k, Q (.str ⟨#[92, c]⟩ t') { s with toks := k }) : wpAny (model prog w) A (call (.builtin "str.translate") [.str ⟨#[c]⟩ t, .ref d]) Q E s := by
  refine wpAny_call_entry PySem.F.slot_str_translate (typeIs_str _ _ _) PySem.F.entry_str_translate ?_ (PySem.F.args_str_translate_2 _ _)
  unfold Builtin.«str.translate»
  refine wpAny_bind (wpAny_of_eq (a := (.str ⟨#[c]⟩ t, ⟨#[c]⟩, .ref d)) (by first | rfl | kernel_rfl) ?_)
  dsimp only
  rw [if_neg (show ¬ ((({ cps := #[c] } : Str).length == 0) = true) from Bool.false_ne_true)]
  simp only [List.forIn_toArray, List.forIn_cons, List.forIn_nil]
  refine wpAny_bind (wpAny_bind ?_)
  have hall : (#[c].all fun x => decide (x < 128)) = true := by simp [hc]
  rw [hall]
  rw [if_neg (show ¬ tooLong 0 = true by decide)]
  simp only [List.lookup_nil, if_true]
  refine wpAny_bind (tab_hit (A := A.in1) hd hm hv fun k => ?_)
  have hcnd : (({ cps := #[92, c] } : Str).length == 1 && #[92, c].all fun x => decide (x < 128)) = false := by rw [show (({ cps := #[92, c] } : Str).length == 1) = false from rfl]; rfl
  simp only [hcnd, Bool.false_eq_true, if_false]
  refine wpAny_bind (wpAny_pure ?_)
  refine wpAny_bind (wpAny_rule ?_)
  refine wpAny_bind (tab_hit (A := A.in1) (s := { s with toks := k }) hd hm hv fun k' => ?_)
  refine wpAny_pure (wpAny_pure ?_)
  dsimp only
  rw [if_neg (show ¬ tooLong (0 + ({ cps := #[92, c] } : Str).length) = true from (by decide : ¬ tooLong 2 = true))]
  show wpAny _ _ (retStr ⟨#[92, c]⟩) _ _ _
  unfold retStr
  exact wpAny_bind (wpAny_mkStr (wpAny_pure ⟨_, rfl, h _ _⟩))
end
end Mine
end
section
namespace Mine
open PySem PySem.W PyProof.Rows PySem.Calls
inductive AV where
  | none | bool (b : Bool) | int (i : Int) | str (s : Str) | con (v : Value)
  | tup (vs : List AV) | lst (vs : List AV)
  | bm (id : String) (l : Addr)
  | mat (s : Str) (spans : List (Nat × Nat))
  | rng (a b : Int)
  | lam
noncomputable abbrev AV.ref (a : Addr) : AV := .con (.ref a)
inductive AObj where
  | list (vs : List AV)
  | dictI (es : List (Int × AV)) (ep : Nat)
  | dictS (es : List (Str × AV))
  | attrs (es : List (Str × AV))
  | set (es : List Int)
  | inst (C d : Addr)
  | slots (C : Addr) (vs : List (Option AV))
  | iter (l : Addr) (i : Nat)
  | cell (v : Option AV)
  | dead
  | loc (es : List (Str × AV))
  | tab (ps : Array Value)
  | raw (o : Obj)
structure FI where
  params : List Str
  vararg : Option Str
  body : List Stmt
  scope : Scope
  lam : Bool
structure Top0 where
  lib : Nat → Option FI
  glob : Str → Option Value
  ctor : Nat → Option FI
structure Cx where
  prog : Program
  w : World
  K : Frag
  B : Heap
  tabs : List (Addr × Addr)
  T : Top0
  os : OsState
structure Pt where
  s : Shared
  im : Addr → Prop
structure Le (P P' : Pt) : Prop where
  keep : ∀ {b o}, P.im b → P.s.heap.get? b = some o → P'.s.heap.get? b = some o
  im : ∀ {b}, P.im b → P'.im b
theorem Le.refl {P : Pt} : Le P P := ⟨fun _ e => e, fun i => i⟩
theorem Le.trans {P P' P'' : Pt} (a : Le P P') (b : Le P' P'') : Le P P'' := ⟨fun i e => b.keep (a.im i) (a.keep i e), fun i => b.im (a.im i)⟩
noncomputable def matObj (x : Str) (t : Tok) (p : Addr) (pos lim li : Int) (st : Addr) : Obj :=
  { cls := .type "re.Match", data := .fields #[.str x t, .ref p, rawInt pos, rawInt lim, rawInt li, .ref st] }
noncomputable def spanVals : List (Nat × Nat) → List Value
  | [] => []
  | p :: r => rawInt p.1 :: rawInt p.2 :: spanVals r
noncomputable def spanObj (sp : List (Nat × Nat)) : Obj := { cls := .type "tuple", data := .seq (spanVals sp).toArray }
section
variable (P : Pt)
mutual
inductive VR : AV → Value → Prop
  | none : VR .none .none
  | bool (b : Bool) : VR (.bool b) (.bool b)
  | int (i : Int) (t : Tok) : VR (.int i) (.int i t)
  | str (s : Str) (t : Tok) : VR (.str s) (.str s t)
  | con (v : Value) : VR (.con v) v
  | tup {vs : List AV} {a : Addr} {its : Array Value} (e : P.s.heap.IsTuple a its) (i : P.im a) (r : VRs vs its.toList) : VR (.tup vs) (.ref a)
  | lst {vs : List AV} {a : Addr} {its : Array Value} (e : P.s.heap.IsList a its) (i : P.im a) (r : VRs vs its.toList) : VR (.lst vs) (.ref a)
  | bm {id : String} {a b : Addr} (e : P.s.heap.get? a = some (bmObj id b)) (i : P.im a) : VR (.bm id b) (.ref a)
  | mat {x : Str} {t : Tok} {p a st : Addr} {pos lim li : Int} {sp : List (Nat × Nat)} (e : P.s.heap.get? a = some (matObj x t p pos lim li st)) (e2 : P.s.heap.get? st = some (spanObj sp)) (i : P.im a) (j : P.im st) : VR (.mat x sp) (.ref a)
  | rng {r : Addr} {a b : Int} {t u v : Tok} (e : IsRange P.s.heap r a b 1 t u v) (i : P.im r) : VR (.rng a b) (.ref r)
  | lam {a : Addr} {o : Obj} {fd : FuncData} (e : P.s.heap.get? a = some o) (hc : o.cls = .type "function") (hd : o.data = .func fd) (i : P.im a) : VR .lam (.ref a)
inductive VRs : List AV → List Value → Prop
  | nil : VRs [] []
  | cons {v : AV} {x : Value} {vs : List AV} {xs : List Value} (a : VR v x) (b : VRs vs xs) : VRs (v :: vs) (x :: xs)
end
variable {P}
noncomputable def VInv (P : Pt) (v : AV) (x : Value) : Prop :=
  AV.casesOn (motive_1 := fun _ => Prop) v (x = .none) (fun b => x = .bool b) (fun i => ∃ t, x = .int i t) (fun s => ∃ t, x = .str s t) (fun v => x = v)
    (fun vs => ∃ a its, x = .ref a ∧ P.s.heap.IsTuple a its ∧ P.im a ∧ VRs P vs its.toList) (fun vs => ∃ a its, x = .ref a ∧ P.s.heap.IsList a its ∧ P.im a ∧ VRs P vs its.toList) (fun id b => ∃ a, x = .ref a ∧ P.s.heap.get? a = some (bmObj id b) ∧ P.im a)
    (fun y sp => ∃ t p a st pos lim li, x = .ref a ∧ P.s.heap.get? a = some (matObj y t p pos lim li st) ∧ P.s.heap.get? st = some (spanObj sp) ∧ P.im a ∧ P.im st) (fun a b => ∃ r t u v, x = .ref r ∧ IsRange P.s.heap r a b 1 t u v ∧ P.im r)
    (∃ a o fd, x = .ref a ∧ P.s.heap.get? a = some o ∧ o.cls = .type "function" ∧ o.data = .func fd ∧ P.im a)
theorem VR.inv {v : AV} {x : Value} (r : VR P v x) : VInv P v x :=
  VR.casesOn (motive_1 := fun v x _ => VInv P v x) r rfl (fun _ => rfl) (fun _ t => ⟨t, rfl⟩) (fun _ t => ⟨t, rfl⟩) (fun _ => rfl) (fun e i r => ⟨_, _, rfl, e, i, r⟩) (fun e i r => ⟨_, _, rfl, e, i, r⟩) (fun e i => ⟨_, rfl, e, i⟩) (fun e e2 i j => ⟨_, _, _, _, _, _, _, rfl, e, e2, i, j⟩) (fun e i => ⟨_, _, _, _, rfl, e, i⟩) (fun e a b i => ⟨_, _, _, rfl, e, a, b, i⟩)
section
variable {m : Value → Prop} {x : Value} {vs : List AV} {y : Str}
@[elab_as_elim] theorem VR.eN (r : VR P .none x) (h : m .none) : m x := (show x = .none from r.inv) ▸ h
@[elab_as_elim] theorem VR.eB {b : Bool} (r : VR P (.bool b) x) (h : m (.bool b)) : m x := (show x = .bool b from r.inv) ▸ h
@[elab_as_elim] theorem VR.eI {i : Int} (r : VR P (.int i) x) (h : ∀ t, m (.int i t)) : m x := let ⟨t, e⟩ := r.inv; e ▸ h t
@[elab_as_elim] theorem VR.eS (r : VR P (.str y) x) (h : ∀ t, m (.str y t)) : m x := let ⟨t, e⟩ := r.inv; e ▸ h t
@[elab_as_elim] theorem VR.eC {v : Value} (r : VR P (.con v) x) (h : m v) : m x := (show x = v from r.inv) ▸ h
@[elab_as_elim] theorem VR.eT (r : VR P (.tup vs) x) (h : ∀ a its, P.s.heap.IsTuple a its → P.im a → VRs P vs its.toList → m (.ref a)) : m x := let ⟨a, its, e, q⟩ := r.inv; e ▸ h a its q.1 q.2.1 q.2.2
@[elab_as_elim] theorem VR.eL (r : VR P (.lst vs) x) (h : ∀ a its, P.s.heap.IsList a its → P.im a → VRs P vs its.toList → m (.ref a)) : m x := let ⟨a, its, e, q⟩ := r.inv; e ▸ h a its q.1 q.2.1 q.2.2
@[elab_as_elim] theorem VR.eBm {id : String} {b : Addr} (r : VR P (.bm id b) x) (h : ∀ a, P.s.heap.get? a = some (bmObj id b) → P.im a → m (.ref a)) : m x := let ⟨a, e, q⟩ := r.inv; e ▸ h a q.1 q.2
@[elab_as_elim] theorem VR.eM {sp : List (Nat × Nat)} (r : VR P (.mat y sp) x) (h : ∀ t p a st pos lim li, P.s.heap.get? a = some (matObj y t p pos lim li st) → P.s.heap.get? st = some (spanObj sp) → P.im a → P.im st → m (.ref a)) : m x :=
by
  obtain ⟨t, p, a, st, pos, lim, li, e, q⟩ := r.inv
  exact e ▸ h t p a st pos lim li q.1 q.2.1 q.2.2.1 q.2.2.2
@[elab_as_elim] theorem VR.eR {a b : Int} (r : VR P (.rng a b) x) (h : ∀ r t u v, IsRange P.s.heap r a b 1 t u v → P.im r → m (.ref r)) : m x := by
  obtain ⟨r, t, u, v, e, q⟩ := r.inv; exact e ▸ h r t u v q.1 q.2
@[elab_as_elim] theorem VR.eF (r : VR P .lam x) (h : ∀ a o fd, P.s.heap.get? a = some o → o.cls = .type "function" → o.data = .func fd → P.im a → m (.ref a)) : m x := by
  obtain ⟨a, o, fd, e, q⟩ := r.inv; exact e ▸ h a o fd q.1 q.2.1 q.2.2.1 q.2.2.2
end
noncomputable def VsInv (P : Pt) (vs : List AV) (xs : List Value) : Prop := List.casesOn (motive := fun _ => Prop) vs (xs = []) (fun v vs => ∃ x ys, xs = x :: ys ∧ VR P v x ∧ VRs P vs ys)
theorem VRs.inv {vs : List AV} {xs : List Value} (r : VRs P vs xs) : VsInv P vs xs := VRs.casesOn (motive_2 := fun vs xs _ => VsInv P vs xs) r rfl fun a b => ⟨_, _, rfl, a, b⟩
@[elab_as_elim] theorem VRs.eN {m : List Value → Prop} {xs : List Value} (r : VRs P [] xs) (h : m []) : m xs := (show xs = [] from r.inv) ▸ h
@[elab_as_elim] theorem VRs.eC {m : List Value → Prop} {xs : List Value} {v : AV} {vs : List AV} (r : VRs P (v :: vs) xs) (h : ∀ x ys, VR P v x → VRs P vs ys → m (x :: ys)) : m xs := let ⟨x, ys, e, q⟩ := r.inv; e ▸ h x ys q.1 q.2
end
section
variable {P P' : Pt} {v : AV} {x : Value} {vs ws : List AV} {xs ys : List Value}
theorem isTuple_le (l : Le P P') {a : Addr} {its : Array Value} (i : P.im a) (e : P.s.heap.IsTuple a its) : P'.s.heap.IsTuple a its := let ⟨o, e, r⟩ := e; ⟨o, l.keep i e, r⟩
theorem isList_le (l : Le P P') {a : Addr} {its : Array Value} (i : P.im a) (e : P.s.heap.IsList a its) : P'.s.heap.IsList a its := let ⟨o, e, r⟩ := e; ⟨o, l.keep i e, r⟩
theorem VR.le (r : VR P v x) (l : Le P P') : VR P' v x :=
  VR.rec (motive_1 := fun v x _ => VR P' v x) (motive_2 := fun vs xs _ => VRs P' vs xs) .none .bool .int .str .con (fun e i _ r => .tup (isTuple_le l i e) (l.im i) r) (fun e i _ r => .lst (isList_le l i e) (l.im i) r)
    (fun e i => .bm (l.keep i e) (l.im i)) (fun e e2 i j => .mat (l.keep i e) (l.keep j e2) (l.im i) (l.im j)) (fun e i => .rng (l.keep i e) (l.im i)) (fun e a b i => .lam (l.keep i e) a b (l.im i)) .nil (fun _ _ a b => .cons a b) r
theorem VRs.le (r : VRs P vs xs) (l : Le P P') : VRs P' vs xs :=
  VRs.rec (motive_1 := fun v x _ => True) (motive_2 := fun vs xs _ => VRs P' vs xs) trivial (fun _ => trivial) (fun _ _ => trivial) (fun _ _ => trivial) (fun _ => trivial) (fun _ _ _ _ => trivial) (fun _ _ _ _ => trivial) (fun _ _ => trivial) (fun _ _ _ _ => trivial) (fun _ _ => trivial) (fun _ _ _ _ => trivial)
    .nil (fun a _ _ b => .cons (a.le l) b) r
theorem VRs.ind {p : List AV → List Value → Prop} (h0 : p [] []) (h1 : ∀ {v x vs xs}, VR P v x → VRs P vs xs → p vs xs → p (v :: vs) (x :: xs)) (r : VRs P vs xs) : p vs xs :=
  VRs.rec (motive_1 := fun v x _ => True) (motive_2 := fun vs xs _ => p vs xs) trivial (fun _ => trivial) (fun _ _ => trivial) (fun _ _ => trivial) (fun _ => trivial) (fun _ _ _ _ => trivial) (fun _ _ _ _ => trivial) (fun _ _ => trivial) (fun _ _ _ _ => trivial) (fun _ _ => trivial) (fun _ _ _ _ => trivial)
    h0 (fun a b _ i => h1 a b i) r
theorem VRs.length (r : VRs P vs xs) : xs.length = vs.length := r.ind (p := fun vs xs => xs.length = vs.length) rfl fun _ _ i => congrArg (· + 1) i
theorem VRs.size {its : Array Value} (r : VRs P vs its.toList) : its.size = vs.length := r.length
theorem VRs.either (r : VRs P vs xs) : ∀ i : Nat, (vs[i]? = none ∧ xs[i]? = none) ∨ ∃ v x, vs[i]? = some v ∧ xs[i]? = some x ∧ VR P v x :=
  r.ind (p := fun vs xs => ∀ i : Nat, (vs[i]? = none ∧ xs[i]? = none) ∨ ∃ v x, vs[i]? = some v ∧ xs[i]? = some x ∧ VR P v x) (fun _ => .inl ⟨rfl, rfl⟩) fun a _ h i => match i with
    | 0 => .inr ⟨_, _, rfl, rfl, a⟩
    | i + 1 => h i
theorem VRs.get (r : VRs P vs xs) {i : Nat} (e : vs[i]? = some v) : ∃ x, xs[i]? = some x ∧ VR P v x := by
  rcases r.either i with ⟨a, _⟩ | ⟨w, x, a, b, c⟩
  · exact nos (a.symm.trans e)
  · exact ⟨x, b, smj (a.symm.trans e) ▸ c⟩
theorem VRs.none (r : VRs P vs xs) {i : Nat} (e : vs[i]? = none) : xs[i]? = none := by
  rcases r.either i with ⟨_, a⟩ | ⟨_, _, a, _⟩
  · exact a
  · exact nos (e.symm.trans a)
theorem VRs.append (r : VRs P vs xs) (q : VRs P ws ys) : VRs P (vs ++ ws) (xs ++ ys) := r.ind (p := fun vs xs => VRs P (vs ++ ws) (xs ++ ys)) q fun a _ i => .cons a i
theorem VRs.set (q : VR P v x) (r : VRs P vs xs) : ∀ i, VRs P (vs.set i v) (xs.set i x) := r.ind (p := fun vs xs => ∀ i, VRs P (vs.set i v) (xs.set i x)) (fun _ => .nil) fun a b h i => match i with
  | 0 => .cons q b
  | i + 1 => .cons a (h i)
theorem VRs.drop (r : VRs P vs xs) : ∀ n, VRs P (vs.drop n) (xs.drop n) := r.ind (p := fun vs xs => ∀ n, VRs P (vs.drop n) (xs.drop n)) (fun n => by rw [List.drop_nil, List.drop_nil]; exact .nil) fun a b h n => match n with
  | 0 => .cons a b
  | n + 1 => h n
theorem VRs.take (r : VRs P vs xs) : ∀ n, VRs P (vs.take n) (xs.take n) := r.ind (p := fun vs xs => ∀ n, VRs P (vs.take n) (xs.take n)) (fun n => by rw [List.take_nil, List.take_nil]; exact .nil) fun a b h n => match n with
  | 0 => .nil
  | n + 1 => .cons a (h n)
theorem VRs.dropLast (r : VRs P vs xs) : VRs P vs.dropLast xs.dropLast := by rw [List.dropLast_eq_take, List.dropLast_eq_take, r.length]; exact r.take _
theorem VRs.fm {f : Nat → Option AV} {g : Nat → Option Value} (e : ∀ i, (f i = Option.none ∧ g i = Option.none) ∨ ∃ v x, f i = some v ∧ g i = some x ∧ VR P v x) : ∀ l : List Nat, VRs P (l.filterMap f) (l.filterMap g)
  | [] => .nil
  | i :: l => by
    rcases e i with ⟨a, b⟩ | ⟨v, x, a, b, r⟩
    · rw [List.filterMap_cons_none a, List.filterMap_cons_none b]; exact VRs.fm e l
    · rw [List.filterMap_cons_some a, List.filterMap_cons_some b]; exact .cons r (VRs.fm e l)
end
noncomputable def NsR (P : Pt) (ns : List (Str × AV)) (m : Str → Option Value) : Prop := ∀ {x v}, ns.lookup x = some v → ∃ y, m x = some y ∧ VR P v y
section
variable {K : Type} [DecidableEq K] {V : Type}
noncomputable def gPut (x : K) (v : V) : List (K × V) → List (K × V)
  | [] => [(x, v)]
  | p :: r => if p.1 = x then (x, v) :: r else p :: gPut x v r
theorem lookup_gPut (x y : K) (v : V) : ∀ ns : List (K × V), (gPut x v ns).lookup y = if y = x then some v else ns.lookup y
  | [] => by
    unfold gPut
    rw [List.lookup_cons]
    by_cases q : y = x
    · rw [if_pos q, beq_iff_eq.mpr q]
    · rw [if_neg q, beq_eq_false_iff_ne.mpr q]
  | p :: r => by
    unfold gPut
    by_cases e : p.1 = x
    · rw [if_pos e, List.lookup_cons, List.lookup_cons]
      by_cases q : y = x
      · rw [if_pos q, beq_iff_eq.mpr q]
      · rw [if_neg q, beq_eq_false_iff_ne.mpr q, beq_eq_false_iff_ne.mpr fun z => q (z.trans e)]
    · rw [if_neg e, List.lookup_cons, List.lookup_cons, lookup_gPut x y v r]
      by_cases q : y = x
      · rw [if_pos q, if_pos q, beq_eq_false_iff_ne.mpr fun z => e (z.symm.trans q)]
      · rw [if_neg q, if_neg q]
end
noncomputable def KVR {α : Type} (P : Pt) (es : List (α × AV)) (kvs : List (α × Value)) : Prop := es.map (·.1) = kvs.map (·.1) ∧ VRs P (es.map (·.2)) (kvs.map (·.2))
noncomputable def DictObj {prog : Program} {w : World} {K : Type} [DecidableEq K] (knd : PySem.KeyKind prog w K) (o : Obj) (kvs : List (K × Value)) (ep : Nat) : Prop :=
  ∃ es, o.ExactDict ∧ o.data = .dict es ep ∧ PySem.KeysOf knd es ∧ PySem.Pairs knd es.toList kvs ∧ (kvs.map (·.1)).Nodup
noncomputable def Ns1Obj (o : Obj) (m : Str → Option Value) : Prop := ∃ es ep, o.data = .dict es ep ∧ StrKeys es ∧ UniqKeys es ∧ ∀ name, nsFind es name = m name
noncomputable def NsObj (o : Obj) (m : Str → Option Value) : Prop := ∃ es ep, o.data = .dict es ep ∧ StrKeys es ∧ ∀ name, nsFind es name = m name
noncomputable def OP (C : Cx) (P : Pt) (ob : AObj) (o : Obj) : Prop := match ob with
  | .list vs => ∃ its n, o = { cls := .type "list", data := .seq its n } ∧ VRs P vs its.toList
  | .dictI es ep => ∃ kvs, DictObj (intKind C.prog C.w) o kvs ep ∧ KVR P es kvs
  | .dictS es => ∃ kvs ep, DictObj (strKind C.prog C.w) o kvs ep ∧ KVR P es kvs
  | .attrs es => ∃ m, Ns1Obj o m ∧ Within m (es.map (·.1)) ∧ NsR P es m
  | .set es => ∃ d ep t, o.ExactSet ∧ o.data = .set d ep t ∧ ElemsOf (intKind C.prog C.w) d.toList ∧ (∀ k, es.contains k = true ↔ ∃ e ∈ d.toList, (intKind C.prog C.w).is k e.2 = true) ∧ d.size < scanBound ∧ t.fits d.size = true ∧ d.size = es.length
  | .inst Cl d => o = instObj Cl d
  | .slots Cl vs => ∃ sl dx, o = { cls := .ref Cl, dict := some dx, data := .plain, slots := sl } ∧ P.im dx ∧ sl.size = vs.length ∧ ∀ (i : Nat) (v : AV), vs[i]? = some (some v) → ∃ y, sl[i]? = some (some y) ∧ VR P v y
  | .iter l i => o = { cls := .type "list_iterator", data := .fields #[.ref l, rawInt i] }
  | .cell v => ∃ x, o.data = .cell x ∧ ∀ w, v = some w → ∃ y, x = some y ∧ VR P w y
  | .dead => o.cls = .type "list_iterator"
  | .loc es => ∃ m, NsObj o m ∧ NsR P es m
  | .tab ps => ∃ more, o = tabObj (ps ++ more) ∧ TriplesOk (ps ++ more).toList
  | .raw o' => o = o'
section
variable {P P' : Pt}
theorem NsR.le {ns : List (Str × AV)} {m : Str → Option Value} (q : NsR P ns m) (l : Le P P') : NsR P' ns m := fun e => let ⟨y, a, r⟩ := q e; ⟨y, a, r.le l⟩
theorem KVR.le {α : Type} {es : List (α × AV)} {kvs : List (α × Value)} (q : KVR P es kvs) (l : Le P P') : KVR P' es kvs := ⟨q.1, q.2.le l⟩
theorem NsR.put {ns : List (Str × AV)} {m : Str → Option Value} (q : NsR P ns m) {x : Str} {v : AV} {y : Value} (r : VR P v y) : NsR P (gPut x v ns) (fun z => if z = x then some y else m z) := fun {z a} e => by
  rw [lookup_gPut] at e
  by_cases hz : z = x
  · rw [if_pos hz] at e; exact ⟨y, if_pos hz, smj e ▸ r⟩
  · rw [if_neg hz] at e; exact let ⟨y', a, b⟩ := q e; ⟨y', (if_neg hz).trans a, b⟩
theorem OP.le {C : Cx} {ob : AObj} {o : Obj} (q : OP C P ob o) (l : Le P P') : OP C P' ob o := by
  cases ob with
  | list vs => exact let ⟨its, n, d, r⟩ := q; ⟨its, n, d, r.le l⟩
  | dictI es ep => exact let ⟨kvs, d, r⟩ := q; ⟨kvs, d, r.le l⟩
  | dictS es => exact let ⟨kvs, ep, d, r⟩ := q; ⟨kvs, ep, d, r.le l⟩
  | attrs es => exact let ⟨m, d, w, r⟩ := q; ⟨m, d, w, NsR.le r l⟩
  | slots Cl vs => exact let ⟨sl, dx, e, i, z, r⟩ := q; ⟨sl, dx, e, l.im i, z, fun i v h => let ⟨y, a, b⟩ := r i v h; ⟨y, a, b.le l⟩⟩
  | cell v => exact let ⟨x, e, r⟩ := q; ⟨x, e, fun w h => let ⟨y, a, b⟩ := r w h; ⟨y, a, b.le l⟩⟩
  | loc es => exact let ⟨m, d, r⟩ := q; ⟨m, d, NsR.le r l⟩
  | _ => exact q
end
structure Okm (C : Cx) (m : Addr → Option AObj) (P : Pt) : Prop where
  base : ∀ b o, C.B.get? b = some o → P.s.heap.get? b = some o ∧ P.im b
  al : ∀ a, P.im a → ∃ o, P.s.heap.get? a = some o
  objs : ∀ a ob, m a = some ob → ¬ P.im a ∧ a ≠ sysModules ∧ ∃ o, P.s.heap.get? a = some o ∧ OP C P ob o
  gens : P.s.gens = #[]
  os : P.s.os = C.os
noncomputable def upd (m : Addr → Option AObj) (a : Addr) (ob : AObj) : Addr → Option AObj := fun b => if b = a then some ob else m b
theorem upd_same {m : Addr → Option AObj} {a : Addr} {ob : AObj} : upd m a ob a = some ob := if_pos rfl
theorem upd_ne {m : Addr → Option AObj} {a b : Addr} {ob : AObj} (h : b ≠ a) : upd m a ob b = m b := if_neg h
noncomputable abbrev Pt.wr (P : Pt) (h : Heap) (tk : Nat) : Pt := ⟨{ P.s with heap := h, toks := tk }, P.im⟩
noncomputable abbrev Pt.up (P : Pt) (h : Heap) (tk : Nat) (N : Addr → Prop) : Pt := ⟨{ P.s with heap := h, toks := tk }, fun a => P.im a ∨ (P.s.heap.get? a = none ∧ (∃ o, h.get? a = some o) ∧ ¬ N a)⟩
section
variable {C : Cx} {m m' : Addr → Option AObj} {P P' : Pt} {h' : Heap} {tk : Nat} {a : Addr} {ob ob' : AObj} {o o' : Obj} {N : Addr → Prop}
theorem Okm.sub (k : Okm C m P) (h : ∀ a ob, m' a = some ob → m a = some ob) : Okm C m' P := { k with objs := fun a ob e => k.objs a ob (h a ob e) }
theorem Okm.set (k : Okm C m P) (hm : m a = some ob) (hb : ∀ b, b ≠ a → h'.get? b = P.s.heap.get? b) (ho : h'.get? a = some o') (q : OP C P ob' o') : Okm C (upd m a ob') (P.wr h' tk) ∧ Le P (P.wr h' tk) :=
  have hn := (k.objs a ob hm).1
  have l : Le P (P.wr h' tk) := ⟨fun {b o} i e => (hb b fun z => hn (z ▸ i)).trans e, fun i => i⟩
  ⟨⟨fun b o e => let ⟨x, y⟩ := k.base b o e; ⟨l.keep y x, y⟩, fun b i => let ⟨o, e⟩ := k.al b i; ⟨o, l.keep i e⟩, fun b ob₁ e => by
    by_cases hba : b = a
    · subst hba; rw [upd_same] at e; exact smj e ▸ ⟨hn, (k.objs b ob hm).2.1, o', ho, q.le l⟩
    · rw [upd_ne hba] at e
      exact let ⟨x, y, o, z, w⟩ := k.objs b ob₁ e; ⟨x, y, o, (hb b hba).trans z, w.le l⟩, k.gens, k.os⟩, l⟩
theorem up_le (k : ∀ b o, P.s.heap.get? b = some o → h'.get? b = some o) : Le P (P.up h' tk N) := ⟨fun i e => k _ _ e, fun i => .inl i⟩
theorem Okm.up (k : Okm C m P) (kp : ∀ b o, P.s.heap.get? b = some o → h'.get? b = some o)
    (hm : ∀ a ob, m' a = some ob → m a = some ob ∨ (N a ∧ P.s.heap.get? a = none ∧ a ≠ sysModules ∧ ∃ o, h'.get? a = some o ∧ OP C (P.up h' tk N) ob o)) : Okm C m' (P.up h' tk N) :=
  ⟨fun b o e => let ⟨x, y⟩ := k.base b o e; ⟨kp b o x, .inl y⟩, fun b i => i.elim (fun i => let ⟨o, e⟩ := k.al b i; ⟨o, kp b o e⟩) fun i => i.2.1, fun b ob e => (hm b ob e).elim
    (fun e => let ⟨x, y, o, z, w⟩ := k.objs b ob e; ⟨fun i => i.elim x fun i => nos (i.1.symm.trans z), y, o, kp b o z, w.le (up_le kp)⟩)
    fun ⟨n, z, y, w⟩ => ⟨fun i => i.elim (fun i => let ⟨o, e⟩ := k.al b i; nos (z.symm.trans e)) fun i => i.2.2 n, y, w⟩, k.gens, k.os⟩
end
structure Fm where
  C : Cx
  A : Around
  env : Env
  fr : List Env
  K : Addr → Option AObj
structure St where
  H : Addr → Option AObj
  ns : List (Str × AV)
noncomputable abbrev St.set (σ : St) (a : Addr) (ob : AObj) : St := ⟨upd σ.H a ob, σ.ns⟩
noncomputable abbrev St.put (σ : St) (x : Str) (v : AV) : St := ⟨σ.H, gPut x v σ.ns⟩
noncomputable def Fm.map (Φ : Fm) (σ : St) : Addr → Option AObj := fun a => if a = Φ.env.locals then some (.loc σ.ns) else (σ.H a).or (Φ.K a)
structure FS where
  T : Top0
  n : Nat
  scope : Scope
  cells : List (Str × Nat)
  lam : Bool
structure Ok (Φ : Fm) (σ : St) (P : Pt) : Prop where
  m : Okm Φ.C (Φ.map σ) P
  dj : ∀ a ob, σ.H a = some ob → Φ.K a = none ∧ a ≠ Φ.env.locals
section
variable {Φ : Fm} {σ : St} {P P' : Pt} {h' : Heap} {tk : Nat} {a : Addr} {ob ob' : AObj} {o o' : Obj} {N : Addr → Prop} {β : Type}
theorem map_H (k : Ok Φ σ P) (e : σ.H a = some ob) : Φ.map σ a = some ob := by unfold Fm.map; rw [if_neg (k.dj a ob e).2, e]; rfl
theorem map_N (h : a ≠ Φ.env.locals) : Φ.map σ a = (σ.H a).or (Φ.K a) := if_neg h
theorem map_L : Φ.map σ Φ.env.locals = some (.loc σ.ns) := if_pos rfl
theorem Ok.obj (k : Ok Φ σ P) (e : σ.H a = some ob) : ∃ o, P.s.heap.get? a = some o ∧ OP Φ.C P ob o := (k.m.objs a ob (map_H k e)).2.2
theorem Ok.set (k : Ok Φ σ P) (e : σ.H a = some ob) (hb : Heap.SameBut a P.s.heap h') (ho : h'.get? a = some o') (q : OP Φ.C P ob' o') : Ok Φ (σ.set a ob') (P.wr h' tk) ∧ Le P (P.wr h' tk) :=
  let ⟨x, y⟩ := k.m.set (map_H k e) hb.2 ho q
  ⟨⟨x.sub fun b ob₁ e₁ => by
    unfold Fm.map at e₁
    unfold upd Fm.map
    by_cases hL : b = Φ.env.locals
    · rw [if_pos hL] at e₁; rw [if_neg fun z => (k.dj a ob e).2 (z.symm.trans hL), if_pos hL]; exact e₁
    · rw [if_neg hL] at e₁
      by_cases hba : b = a
      · rw [if_pos hba]; rw [show (σ.set a ob').H b = some ob' from if_pos hba] at e₁; exact e₁
      · rw [if_neg hba, if_neg hL]; rw [show (σ.set a ob').H b = σ.H b from if_neg hba] at e₁; exact e₁,
   fun b ob₁ e₁ => by
    by_cases hba : b = a
    · subst hba; exact k.dj b ob e
    · rw [show (σ.set a ob').H b = σ.H b from if_neg hba] at e₁; exact k.dj b ob₁ e₁⟩, y⟩
theorem Ok.put (k : Ok Φ σ P) {x : Str} {v : AV} {y : Value} {mm : Str → Option Value} (hb : Heap.SameBut Φ.env.locals P.s.heap h') (hq : NsR P σ.ns mm) (hn : h'.Ns Φ.env.locals (fun z => if z = x then some y else mm z)) (r : VR P v y) :
    Ok Φ (σ.put x v) (P.wr h' tk) ∧ Le P (P.wr h' tk) :=
  let ⟨o', es, ep, e, d, sk, f⟩ := hn
  let ⟨a, b⟩ := k.m.set (map_L (σ := σ)) (ob' := .loc (gPut x v σ.ns)) hb.2 e ⟨_, ⟨es, ep, d, sk, f⟩, hq.put r⟩
  ⟨⟨a.sub fun b ob₁ e₁ => by
    unfold Fm.map at e₁
    unfold upd Fm.map
    by_cases hL : b = Φ.env.locals
    · rw [if_pos hL] at e₁ ⊢; exact e₁
    · rw [if_neg hL] at e₁ ⊢; rw [if_neg hL]; exact e₁, k.dj⟩, b⟩
theorem Ok.up (k : Ok Φ σ P) (kp : ∀ b o, P.s.heap.get? b = some o → h'.get? b = some o) : Ok Φ σ (P.up h' tk fun _ => False) ∧ Le P (P.up h' tk fun _ => False) :=
  ⟨⟨k.m.up kp fun _ _ e => .inl e, k.dj⟩, up_le kp⟩
theorem Okm.alive {C : Cx} {m : Addr → Option AObj} (k : Okm C m P) (e : m a = some ob) (n : P.s.heap.get? a = none) : False := let ⟨_, _, o, z, _⟩ := k.objs a ob e; nos (n.symm.trans z)
theorem Ok.dead (k : Ok Φ σ P) (n : P.s.heap.get? a = none) : σ.H a = none ∧ Φ.K a = none ∧ a ≠ Φ.env.locals := by
  have hL : a ≠ Φ.env.locals := fun z => k.m.alive (map_L (σ := σ)) (z ▸ n)
  have hH : σ.H a = none := by
    cases e : σ.H a with
    | none => rfl
    | some ob => exact (k.m.alive (map_H k e) n).elim
  refine ⟨hH, ?_, hL⟩
  cases e : Φ.K a with
  | none => rfl
  | some ob => exact (k.m.alive (ob := ob) (by unfold Fm.map; rw [if_neg hL, hH, e]; rfl) n).elim
theorem Ok.add (k : Ok Φ σ P) (kp : ∀ b o, P.s.heap.get? b = some o → h'.get? b = some o) (hn : P.s.heap.get? a = none) (hs : a ≠ sysModules) (ho : h'.get? a = some o') (q : OP Φ.C P ob o') :
    Ok Φ (σ.set a ob) (P.up h' tk (· = a)) ∧ Le P (P.up h' tk (· = a)) :=
  let ⟨d1, d2, d3⟩ := k.dead hn
  ⟨⟨k.m.up kp fun b ob₁ e => by
    unfold Fm.map at e ⊢
    by_cases hL : b = Φ.env.locals
    · rw [if_pos hL] at e ⊢; exact .inl e
    · rw [if_neg hL] at e ⊢
      by_cases hba : b = a
      · rw [show (σ.set a ob).H b = some ob from if_pos hba] at e
        exact .inr ⟨hba, hba ▸ hn, hba ▸ hs, o', hba ▸ ho, smj e ▸ q.le (up_le kp)⟩
      · rw [show (σ.set a ob).H b = σ.H b from if_neg hba] at e; exact .inl e,
   fun b ob₁ e => by
    by_cases hba : b = a
    · rw [hba]; exact ⟨d2, d3⟩
    · rw [show (σ.set a ob).H b = σ.H b from if_neg hba] at e; exact k.dj b ob₁ e⟩, up_le kp⟩
end
end Mine
end
section
namespace Mine
open PySem PySem.W PyProof.Rows PySem.Calls PySem.SeqAt
noncomputable def slotNo (attr : Str) : Option Nat := if attr = ("node" : Str) then some 0 else if attr = ("npredecessors" : Str) then some 1 else if attr = ("successors" : Str) then some 2 else none
noncomputable def tsAttrs : List Str := ["_node2info", "_ready_nodes", "_npassedout", "_nfinished"]
noncomputable def methOf (name : Str) : Option Nat :=
  if name = ("add" : Str) then some 184 else if name = ("prepare" : Str) then some 189 else if name = ("get_ready" : Str) then some 196
    else if name = ("is_active" : Str) then some 203 else if name = ("done" : Str) then some 217 else if name = ("_find_cycle" : Str) then some 224
    else if name = ("_get_nodeinfo" : Str) then some 177 else none
structure ClsOk (K : Frag) : Prop where
  tGet : plainGet K 234 "" = true
  tDict : hasDictIn K 234 = true
  tSet : findIn K (.ref 234) "__setattr__" = some (some (.builtin "object.__setattr__"))
  tOver : plainOver K 234 = true
  tName : ∀ name ∈ tsAttrs, findIn K (.ref 234) name = some none
  tMeth : ∀ name f, methOf name = some f → findIn K (.ref 234) name = some (some (.ref f)) ∧ typeIn K (.ref f) = some (.type "function")
  nGet : plainGet K 137 "" = true
  nCls : isClsIn K 137 = true
  nSet : findIn K (.ref 137) "__setattr__" = some (some (.builtin "object.__setattr__"))
  nOver : plainOver K 137 = true
  nSlot : ∀ name i, slotNo name = some i → ∃ p, findIn K (.ref 137) name = some (some (.ref p)) ∧ specialIn K (.ref p) "__get__" = some (some (.builtin "member_descriptor.__get__")) ∧
    takesIn K (.ref p) = some true ∧ slotIn K p 137 = some i ∧ typeIn K (.ref p) = some (.type "member_descriptor")
  meth : ∀ name f, methOf name = some f → specialIn K (.ref f) "__get__" = some (some (.builtin "function.__get__")) ∧ takesIn K (.ref f) = some false ∧ fnIn K f = true ∧ keepIn K (.ref f) = true ∧
    copiedNames.contains name = false ∧ tsAttrs.contains name = false
structure CxRe (C : Cx) : Prop where
  p43 : PatAt C.B 43 c43 0
  p55 : PatAt C.B 55 c55 1
  p60 : PatAt C.B 60 c60 1
  p65 : PatAt C.B 65 c65 1
  p70 : PatAt C.B 70 c70 1
  p82 : PatAt C.B 82 c82 0
  p87 : PatAt C.B 87 c87 1
  p99 : PatAt C.B 99 c99 1
  tab : ∃ f, C.B.MapOf (intKind C.prog C.w) 101 f ∧ ∀ c : Nat, c < 128 → (special c = true → ∃ u, f c = some (.str ⟨#[92, c]⟩ u)) ∧ (special c = false → f c = none)
structure FnIn (C : Cx) (a : Addr) (fi : FI) (oc : Value) (od : Option Addr) (fd : FuncData) (osl : Array (Option Value)) : Prop where
  obj : C.K.lookup a = some ⟨oc, od, .func fd, osl⟩
  scope : fd.scope = fi.scope
  body : fd.body = .stmts fi.body
  glob : fd.globals = mainGlobals
  blt : fd.builtins = builtinsNs
  clo : fd.closure = []
  code : codeIn C.K fd.code fd.qualname = true
  lam : fi.lam = true → ∃ p ∈ C.tabs, fd.code = .ref p.1
  kind : fi.scope.kind = .function
  co : fi.scope.isCoroutine = false
  gen : fi.scope.isGenerator = false
  names : (fi.scope.names.map (·.1)).Nodup
  nd : (fi.params ++ fi.vararg.toList).Nodup
  par : ∀ x ∈ fi.params ++ fi.vararg.toList, fi.scope.names.lookup x = some .local ∨ fi.scope.names.lookup x = some .cell
structure PlainDef (fd : FuncData) (ps : List Str) (va : Option Str) : Prop where
  po : fd.params.posonlyargs = []
  ko : fd.params.kwonlyargs = []
  kw : fd.params.kwarg = none
  df : fd.defaults = .none
  eqa : fd.params.args.map (·.arg) = ps
  eqv : fd.params.vararg.map (·.arg) = va
  nd : ps.Nodup
structure CtorIn (K : Frag) (cl fI : Addr) : Prop where
  makes : makesIn K cl = true
  init : findIn K (.ref cl) "__init__" = some (some (.ref fI))
  fn : isFn K (.ref fI) = true
  keep : keepIn K (.ref cl) = true
structure LibAll (C : Cx) : Prop where
  lib : ∀ a fi, C.T.lib a = some fi → ∃ oc od fd osl, FnIn C a fi oc od fd osl ∧ PlainDef fd fi.params fi.vararg
  c234 : ∀ fi, C.T.ctor 234 = some fi → ∃ fI oc od fd osl T o nn, CtorIn C.K 234 fI ∧ FnIn C fI fi oc od fd osl ∧ fd.params.posonlyargs = [] ∧ fd.params.kwonlyargs = [] ∧ fd.params.kwarg = none ∧ fd.params.vararg = none ∧
    fd.params.args.map (·.arg) = [Str.ofString "self", Str.ofString "graph"] ∧ fi.params = [Str.ofString "self", Str.ofString "graph"] ∧ fi.vararg = none ∧ fd.defaults = .ref T ∧ C.B.get? T = some o ∧ o.data = .seq #[.none] nn
  c137 : ∀ fi, C.T.ctor 137 = some fi → ∃ fI oc od fd osl, CtorIn C.K 137 fI ∧ FnIn C fI fi oc od fd osl ∧ PlainDef fd fi.params fi.vararg
noncomputable def vErr : List Value := [.type "ValueError", .type "Exception", .type "BaseException", .type "object"]
structure ExcIn (B : Heap) : Prop where
  obj : ∃ nm q N bs hdct sn sub ab col dd k0 k1 k2 k3 k5 mN, B.get? 152 = some (excClassObj nm q 152 N bs vErr hdct sn sub ab col dd k0 k1 k2 k3 k5 "ValueError.__new__") ∧ B.Ns N mN ∧ mN "__init__" = none
structure CxOk (C : Cx) : Prop where
  exc : ExcIn C.B
  X : C.K.In C.B
  lim : C.B.NoLimit
  glob : ∃ mg, C.B.Ns mainGlobals mg ∧ (∀ x v, C.T.glob x = some v → mg x = some v) ∧ (∀ x : Str, C.T.glob x = none → (bootBuiltins x).isSome = true → x ≠ "__name__" → mg x = none) ∧ ∀ p ∈ C.tabs, C.B.BuiltinsAt mg p.2
  blt : ∃ mb, C.B.Ns builtinsNs mb ∧ ∀ x : Str, x ≠ "__name__" → mb x = bootBuiltins x
  heads : ∀ p ∈ C.tabs, CodeHd C.B p.1 p.2
  cls : ClsOk C.K
  re : CxRe C
  lib : LibAll C
  b2 : ∃ o, C.B.get? 2 = some o
structure FrOk (Φ : Fm) (fs : FS) : Prop where
  cx : CxOk Φ.C
  T : Φ.C.T = fs.T
  scope : Φ.env.scope = fs.scope
  kind : fs.scope.kind = .function
  glob : Φ.env.globals = mainGlobals
  blt : Φ.env.builtins = builtinsNs
  cells : ∀ x l, fs.cells.lookup x = some l → Φ.env.cells.lookup x = some l
  lam : fs.lam = true → ∃ p ∈ Φ.C.tabs, Φ.env.code = .ref p.1
  handled : Φ.A.handled = none
  depth : Φ.A.depth + 4 * fs.n ≤ 900
  units : Φ.A.units + 20 * fs.n ≤ 9000
  frames : Φ.A.frames = some Φ.fr
  fk : ∀ env ∈ Φ.fr, env.scope.kind ≠ .module ∧ ∃ L, env.frame = some L ∧ Φ.C.B.get? L = none ∧ (L = Φ.env.locals ∨ ∃ ns, Φ.K L = some (.loc ns))
  tabs : ∀ p ∈ Φ.C.tabs, ∃ ps, Φ.K p.2 = some (.tab ps)
  kl : Φ.K Φ.env.locals = none
noncomputable abbrev Fm.M (Φ : Fm) : Model := model Φ.C.prog Φ.C.w
noncomputable abbrev Pt.gr (P : Pt) (h : Heap) (tk : Nat) : Pt := P.up h tk fun _ => False
noncomputable def Lf {β : Type} (Φ : Fm) (P : Pt) (t : Sem β) (R : Pt → β → Prop) : Prop :=
  ∀ (Q : β → Shared → Prop) (E : Value → Shared → Prop), (∀ h' tk x, (∀ b o, P.s.heap.get? b = some o → h'.get? b = some o) → R (P.gr h' tk) x → Q x { P.s with heap := h', toks := tk }) → wpAny Φ.M Φ.A t Q E P.s
section
variable {Φ : Fm} {fs : FS} {σ : St} {P : Pt} {β : Type} {t : Sem β} {R : Pt → β → Prop} {Q : β → Shared → Prop} {E : Value → Shared → Prop}
theorem Lf.run (h : Lf Φ P t R) (ok : Ok Φ σ P) (k : ∀ P' x, Le P P' → Ok Φ σ P' → R P' x → Q x P'.s) : wpAny Φ.M Φ.A t Q E P.s :=
  h Q E fun h' tk x kp r => k (P.gr h' tk) x (ok.up kp).2 (ok.up kp).1 r
theorem Lf.same (h : ∀ (Q : β → Shared → Prop) (E : Value → Shared → Prop), (∀ x, (∀ P', Le P P' → R P' x) → Q x P.s) → wpAny Φ.M Φ.A t Q E P.s) : Lf Φ P t R :=
  fun Q E k => h Q E fun x r => k P.s.heap P.s.toks x (fun _ _ e => e) (r _ (up_le fun _ _ e => e))
theorem Ok.keep (ok : Ok Φ σ P) : ∀ b o, Φ.C.B.get? b = some o → P.s.heap.get? b = some o := fun b o e => (ok.m.base b o e).1
theorem Ok.frag (F : FrOk Φ fs) (ok : Ok Φ σ P) : Φ.C.K.In P.s.heap := F.cx.X.keeps ok.keep
theorem get_size1 {h : Heap} {a : Addr} (ha : h.objs.size ≤ a) : h.get? a = none := by
  cases e : h.get? a with
  | none => rfl
  | some o => exact absurd (Heap.lt_size e) (Nat.not_lt.mpr ha)
theorem get_size (h : Heap) : h.get? h.objs.size = none := get_size1 (Nat.le_refl _)
theorem keep_push (h : Heap) (o : Obj) : ∀ b ob, h.get? b = some ob → (h.push o).get? b = some ob := fun _ _ e => Heap.get?_push_of_some _ e
theorem im_new {h : Heap} {tk : Nat} {a : Addr} {o : Obj} (n : P.s.heap.get? a = none) (e : h.get? a = some o) : (P.gr h tk).im a := .inr ⟨n, ⟨o, e⟩, fun z => z⟩
theorem im_push {o : Obj} {tk : Nat} (hf : o.isFreed = false) : (P.gr (P.s.heap.push o) tk).im P.s.heap.objs.size := im_new (get_size _) (Heap.get?_push_size _ hf)
end
noncomputable def We (fs : FS) (e : Expr) (σ : St) (Q : AV → St → Prop) : Prop :=
  ∀ Φ P K E, FrOk Φ fs → Ok Φ σ P → (∀ P' x v σ', Le P P' → Ok Φ σ' P' → VR P' v x → Q v σ' → K x P'.s) → wpAny Φ.M Φ.A (eval e Φ.env) K E P.s
noncomputable def Wt (fs : FS) (e : Expr) (σ : St) (Q : Bool → St → Prop) : Prop :=
  ∀ Φ P K E, FrOk Φ fs → Ok Φ σ P → (∀ P' b σ', Le P P' → Ok Φ σ' P' → Q b σ' → K b P'.s) → wpAny Φ.M Φ.A (isTrue e Φ.env (eval e Φ.env)) K E P.s
noncomputable def Op2 (t : Value → Value → Sem Value) (a b : AV) (σ : St) (v : AV) : Prop :=
  ∀ Φ P x y, Φ.A.units ≤ 9000 → Ok Φ σ P → VR P a x → VR P b y → Lf Φ P (t x y) fun P' z => VR P' v z
noncomputable abbrev Bop (op : Operator) (a b : AV) (σ : St) (v : AV) : Prop := Op2 (binaryOp op) a b σ v
noncomputable abbrev Cmp (op : CmpOp) (a b : AV) (σ : St) (c : Bool) : Prop := Op2 (compareOp op) a b σ (.bool c)
noncomputable def Tru (v : AV) (σ : St) (b : Bool) : Prop := ∀ Φ P x, Ok Φ σ P → VR P v x → Lf Φ P (truthy x) fun _ c => c = b
noncomputable def Br (c : Bool) (A B : Prop) : Prop := (c = true → A) ∧ (c = false → B)
section
variable {fs : FS} {σ : St} {e l r o i b t : Expr} {x : Str} {p q : Pos} {k u : Nat} {v : AV} {Q : AV → St → Prop} {Qb : Bool → St → Prop}
theorem br_true {A B : Prop} (h : A) : Br true A B := ⟨fun _ => h, nofun⟩
theorem br_false {A B : Prop} (h : B) : Br false A B := ⟨nofun, fun _ => h⟩
theorem br_t {c : Bool} {A B : Prop} (e : c = true) (h : A) : Br c A B := ⟨fun _ => h, fun z => ff (z.symm.trans e)⟩
theorem br_f {c : Bool} {A B : Prop} (e : c = false) (h : B) : Br c A B := ⟨fun z => ff (e.symm.trans z), fun _ => h⟩
theorem We.mono (h : We fs e σ Q) {R : AV → St → Prop} (q : ∀ v s, Q v s → R v s) : We fs e σ R := fun Φ P K E F ok k => h Φ P K E F ok fun P' x v σ' l ok' r z => k P' x v σ' l ok' r (q v σ' z)
theorem We.lf (h : ∀ Φ P, FrOk Φ fs → Ok Φ σ P → Lf Φ P (eval e Φ.env) fun P' z => VR P' v z) (q : Q v σ) : We fs e σ Q := fun Φ P K E F ok k => (h Φ P F ok).run ok fun P' x l ok' r => k P' x v σ l ok' r q
theorem Lf.ret {Φ : Fm} {P : Pt} {x : Value} (r : ∀ P', Le P P' → VR P' v x) : Lf Φ P (pure x) fun P' z => VR P' v z := .same fun Q E k => wpAny_pure (k x r)
theorem w_none : Q .none σ → We fs (.Constant .none u p) σ Q := We.lf fun Φ P F ok => Lf.ret fun _ _ => .none
theorem w_bool {b : Bool} : Q (.bool b) σ → We fs (.Constant (.bool b) u p) σ Q := We.lf fun Φ P F ok => Lf.ret fun _ _ => .bool b
theorem w_int {b : Int} : Q (.int b) σ → We fs (.Constant (.int b) u p) σ Q := We.lf fun Φ P F ok Q E k => wpAny_mkInt (k _ _ _ (fun _ _ e => e) (.int _ _))
theorem w_str {b : Str} : Q (.str b) σ → We fs (.Constant (.str b) u p) σ Q := We.lf fun Φ P F ok Q E k => Constant_str (k _ _ _ (fun _ _ e => e) (.str _ _))
noncomputable def badName (x : Str) : Bool := x == ("__debug__" : Str) || x == ("__classdict__" : Str)
theorem bad1 (h : badName x = false) : x ≠ ("__debug__" : Str) ∧ x ≠ ("__classdict__" : Str) := by
  unfold badName at h
  rw [Bool.or_eq_false_iff, beq_eq_false_iff_ne, beq_eq_false_iff_ne] at h; exact h
noncomputable def isK (fs : FS) (x : Str) (kd : NameKind) : Bool := fs.scope.names.lookup x == some kd && !badName x
theorem isK_at {kd : NameKind} (h : isK fs x kd = true) {Φ : Fm} (F : FrOk Φ fs) : Φ.env.kindOf x = some kd ∧ (x == ("__debug__" : Str)) = false ∧ (x == ("__classdict__" : Str)) = false := by
  have h := Bool.and_eq_true_iff.mp h
  have h2 := bad1 (Bool.not_eq_true' _ ▸ h.2)
  exact ⟨by unfold Env.kindOf; rw [F.scope]; exact eq_of_beq h.1, beq_eq_false_iff_ne.mpr h2.1, beq_eq_false_iff_ne.mpr h2.2⟩
theorem FrOk.kn {Φ : Fm} (F : FrOk Φ fs) : Φ.env.scope.kind = .function := F.scope ▸ F.kind
theorem ns_at {Φ : Fm} {P : Pt} (ok : Ok Φ σ P) : ∃ m, P.s.heap.Ns Φ.env.locals m ∧ NsR P σ.ns m := by
  obtain ⟨_, _, o, e, m, ⟨es, ep, d, sk, f⟩, q⟩ := ok.m.objs _ _ (map_L (σ := σ))
  exact ⟨m, ⟨o, es, ep, e, d, sk, f⟩, q⟩
theorem w_local (h : isK fs x .local = true) (hv : σ.ns.lookup x = some v) : Q v σ → We fs (.Name x p) σ Q := We.lf fun Φ P F ok => .same fun Q E k => by
  obtain ⟨m, hn, q⟩ := ns_at ok
  obtain ⟨y, hy, ry⟩ := q hv
  exact wpAny_Name (wpAny_loadName_local F.kn (isK_at h F).1 hn hy (k y fun P' l => ry.le l)) (isK_at h F).2.1
theorem w_cell {j : Nat} (h : (isK fs x .cell || isK fs x .free) = true) (hc : fs.cells.lookup x = some j) (hv : σ.H j = some (.cell (some v))) : Q v σ → We fs (.Name x p) σ Q := We.lf fun Φ P F ok => .same fun Q E k => by
  obtain ⟨o, e, y, d, q⟩ := ok.obj hv
  obtain ⟨z, rfl, rz⟩ := q v rfl
  have hic : P.s.heap.IsCell j (some z) := ⟨o, e, d⟩
  rcases Bool.or_eq_true_iff.mp h with h | h
  · exact wpAny_Name (wpAny_loadName_cell F.kn (isK_at h F).1 (F.cells x j hc) hic (k z fun P' l => rz.le l)) (isK_at h F).2.1
  · exact wpAny_Name (wpAny_loadName_free F.kn (isK_at h F).1 (F.cells x j hc) hic (k z fun P' l => rz.le l) (isK_at h F).2.2) (isK_at h F).2.1
theorem w_globv {y : Value} (h : isK fs x .globalImplicit = true) (hv : fs.T.glob x = some y) (r : ∀ P, VR P v y) : Q v σ → We fs (.Name x p) σ Q := We.lf fun Φ P F ok => .same fun Q E k => by
  obtain ⟨mg, hg, hs, _⟩ := F.cx.glob
  exact Name_function_global F.kn (isK_at h F).1 (loadGlobal_global (by rw [F.glob]; exact hg.keeps ok.keep) (hs x y (F.T ▸ hv)) (k y fun P' _ => r P')) (isK_at h F).2.1
theorem w_glob {y : Value} (h : isK fs x .globalImplicit = true) (hv : fs.T.glob x = some y) : Q (.con y) σ → We fs (.Name x p) σ Q := w_globv h hv fun P => .con y
theorem w_globi {j : Int} {u : Tok} (h : isK fs x .globalImplicit = true) (hv : fs.T.glob x = some (.int j u)) : Q (.int j) σ → We fs (.Name x p) σ Q := w_globv h hv fun P => .int j u
theorem w_blt {y : Value} (h : (isK fs x .globalImplicit && !(x == ("__name__" : Str))) = true) (hv : fs.T.glob x = none) (hy : bootBuiltins x = some y) : Q (.con y) σ → We fs (.Name x p) σ Q := We.lf fun Φ P F ok => .same fun Q E k => by
  obtain ⟨mg, hg, _, hn, _⟩ := F.cx.glob
  obtain ⟨mb, hb, ht⟩ := F.cx.blt
  have h := Bool.and_eq_true_iff.mp h
  have hx : x ≠ "__name__" := beq_eq_false_iff_ne.mp (Bool.not_eq_true' _ ▸ h.2)
  exact Name_function_global F.kn (isK_at h.1 F).1 (loadGlobal_builtin (by rw [F.glob]; exact hg.keeps ok.keep) (hn x (F.T ▸ hv) (by rw [hy]; rfl) hx) (by rw [F.blt]; exact hb.keeps ok.keep) ((ht x hx).trans hy) (k y fun _ _ => .con y)) (isK_at h.1 F).2.1
theorem Op2.run {t : Value → Value → Sem Value} {a b : AV} (h : Op2 t a b σ v) {Φ : Fm} {P : Pt} {x y : Value} {K : Value → Shared → Prop} {E : Value → Shared → Prop} (F : FrOk Φ fs) (ok : Ok Φ σ P) (ra : VR P a x) (rb : VR P b y)
    (k : ∀ P' z, Le P P' → Ok Φ σ P' → VR P' v z → K z P'.s) : wpAny Φ.M Φ.A (t x y) K E P.s := (h Φ P x y (by have := F.units; lia) ok ra rb).run ok k
theorem w_bin {op : Operator} (h : We fs l σ fun a s => We fs r s fun b s => ∃ v, Bop op a b s v ∧ Q v s) : We fs (.BinOp l op r p) σ Q := fun Φ P K E F ok k =>
  wpAny_BinOp (h Φ P _ E F ok fun P1 x a σ1 l1 ok1 r1 h1 => h1 Φ P1 _ E F ok1 fun P2 y b σ2 l2 ok2 r2 ⟨v, hv, q⟩ => hv.run F ok2 (r1.le l2) r2 fun P3 z l3 ok3 r3 => k P3 z v σ2 (l1.trans (l2.trans l3)) ok3 r3 q)
theorem cmp_in {op : CmpOp} (h : We fs l σ fun a s => We fs r s fun b s => ∃ c, Cmp op a b s c ∧ Qb c s) {Φ : Fm} {P : Pt} {K : Value → Shared → Prop} {E : Value → Shared → Prop} (F : FrOk Φ fs) (ok : Ok Φ σ P)
    (k : ∀ P' c σ', Le P P' → Ok Φ σ' P' → Qb c σ' → K (.bool c) P'.s) : wpAny Φ.M Φ.A (eval l Φ.env) (fun x s₁ => wpAny Φ.M Φ.A (eval r Φ.env) (fun y s₂ => wpAny Φ.M Φ.A (compareOp op x y) K E s₂) E s₁) E P.s :=
  h Φ P _ E F ok fun P1 x a σ1 l1 ok1 r1 h1 => h1 Φ P1 _ E F ok1 fun P2 y b σ2 l2 ok2 r2 ⟨c, hv, q⟩ => hv.run F ok2 (r1.le l2) r2 fun P3 z l3 ok3 r3 => (show z = .bool c from r3.inv) ▸ k P3 c σ2 (l1.trans (l2.trans l3)) ok3 q
theorem w_cmp {op : CmpOp} (hb : behindInMarks op r = false) (h : We fs l σ fun a s => We fs r s fun b s => ∃ c, Cmp op a b s c ∧ Q (.bool c) s) : We fs (.Compare l [op] [r] p) σ Q := fun Φ P K E F ok k =>
  wpAny_Compare1 (cmp_in h F ok fun P' c σ' l ok' q => k P' _ (.bool c) σ' l ok' (.bool c) q) hb
theorem t_cmp {op : CmpOp} (hb : behindInMarks op r = false) (h : We fs l σ fun a s => We fs r s fun b s => ∃ c, Cmp op a b s c ∧ Qb c s) : Wt fs (.Compare l [op] [r] p) σ Qb := fun Φ P K E F ok k =>
  wpAny_isTrue_Compare1 (cmp_in h F ok fun P' c σ' l ok' q => wpAny_truthy_bool (k P' c σ' l ok' q)) hb
theorem Tru.run {a : AV} {c : Bool} (h : Tru a σ c) {Φ : Fm} {P : Pt} {x : Value} {K : Bool → Shared → Prop} {E : Value → Shared → Prop} (ok : Ok Φ σ P) (ra : VR P a x) (k : ∀ P', Le P P' → Ok Φ σ P' → K c P'.s) : wpAny Φ.M Φ.A (truthy x) K E P.s :=
  (h Φ P x ok ra).run ok fun P' z l ok' e => e ▸ k P' l ok'
theorem t_val (ht : ∀ env w, isTrue e env w = (do let v ← w; standAt e.pos; holding [v] (truthy v))) (h : We fs e σ fun v s => ∃ b, Tru v s b ∧ Qb b s) : Wt fs e σ Qb := fun Φ P K E F ok k =>
  isTrue_plain (h Φ P _ E F ok fun P1 x a σ1 l1 ok1 r1 ⟨b, hb, q⟩ => hb.run ok1 r1 fun P2 l2 ok2 => k P2 b σ1 (l1.trans l2) ok2 q) (ht _ _)
theorem t_not (h : Wt fs e σ fun b s => Qb (!b) s) : Wt fs (.UnaryOp .Not e p) σ Qb := fun Φ P K E F ok k => isTrue_not (h Φ P _ E F ok fun P' b σ' l ok' q => k P' (!b) σ' l ok' q)
noncomputable def Wta (fs : FS) (op : BoolOp) (es : List Expr) (σ : St) (Q : Bool → St → Prop) : Prop :=
  ∀ Φ P K E, FrOk Φ fs → Ok Φ σ P → (∀ P' b σ', Le P P' → Ok Φ σ' P' → Q b σ' → K b P'.s) → wpAny Φ.M Φ.A (allTrue op es Φ.env) K E P.s
theorem ta_nil (op : BoolOp) : Wta fs op [] σ (fun c s => c = (match op with | .And => true | .Or => false) ∧ s = σ) := fun Φ P K E F ok k => wpAny_pure (k P _ σ Le.refl ok ⟨by cases op <;> rfl, rfl⟩)
theorem ta_and {es : List Expr} (h : Wt fs e σ fun b s => Br b (Wta fs .And es s Qb) (Qb false s)) : Wta fs .And (e :: es) σ Qb := fun Φ P K E F ok k =>
  wpAny_bind (h Φ P _ E F ok fun P1 b σ1 l1 ok1 q => match b, q with
    | true, q => q.1 rfl Φ P1 K E F ok1 fun P2 c σ2 l2 => k P2 c σ2 (l1.trans l2)
    | false, q => wpAny_pure (k P1 false σ1 l1 ok1 (q.2 rfl)))
theorem ta_or {es : List Expr} (h : Wt fs e σ fun b s => Br b (Qb true s) (Wta fs .Or es s Qb)) : Wta fs .Or (e :: es) σ Qb := fun Φ P K E F ok k =>
  wpAny_bind (h Φ P _ E F ok fun P1 b σ1 l1 ok1 q => match b, q with
    | false, q => q.2 rfl Φ P1 K E F ok1 fun P2 c σ2 l2 => k P2 c σ2 (l1.trans l2)
    | true, q => wpAny_pure (k P1 true σ1 l1 ok1 (q.1 rfl)))
theorem Wta.mono {op : BoolOp} {es : List Expr} (h : Wta fs op es σ Qb) {R : Bool → St → Prop} (q : ∀ v s, Qb v s → R v s) : Wta fs op es σ R := fun Φ P K E F ok k => h Φ P K E F ok fun P' x σ' l ok' z => k P' x σ' l ok' (q x σ' z)
theorem Wt.mono (h : Wt fs e σ Qb) {R : Bool → St → Prop} (q : ∀ v s, Qb v s → R v s) : Wt fs e σ R := fun Φ P K E F ok k => h Φ P K E F ok fun P' x σ' l ok' z => k P' x σ' l ok' (q x σ' z)
theorem ta_last {op : BoolOp} (h : Wt fs e σ Qb) : Wta fs op [e] σ Qb := match op with
  | .And => ta_and (h.mono fun b s q => match b, q with
    | true, q => br_true ((ta_nil _).mono fun c s' z => z.1 ▸ z.2 ▸ q)
    | false, q => br_false q)
  | .Or => ta_or (h.mono fun b s q => match b, q with
    | true, q => br_true q
    | false, q => br_false ((ta_nil _).mono fun c s' z => z.1 ▸ z.2 ▸ q))
theorem t_bool {op : BoolOp} {es : List Expr} (h : Wta fs op es σ Qb) : Wt fs (.BoolOp op es p) σ Qb := h
theorem w_usub (h : We fs e σ fun v s => ∃ i, v = .int i ∧ Q (.int (-i)) s) : We fs (.UnaryOp .USub e p) σ Q := fun Φ P K E F ok k =>
  wpAny_UnaryOp (h Φ P _ E F ok fun P1 x a σ1 l1 ok1 r1 ⟨i, e, q⟩ => (show VR P1 (.int i) x from e ▸ r1).eI fun t =>
    (show Lf Φ P1 (unaryOp .USub (.int i t)) fun P' z => VR P' (.int (-i)) z from fun Q E k => neg_int (k _ _ _ (fun _ _ e => e) (.int _ _))).run ok1 fun P2 z l2 ok2 r2 => k P2 z _ σ1 (l1.trans l2) ok2 r2 q)
theorem w_ifexp (h : Wt fs t σ fun c s => Br c (We fs b s Q) (We fs o s Q)) : We fs (.IfExp t b o p) σ Q := fun Φ P K E F ok k =>
  wpAny_IfExp (h Φ P _ E F ok fun P1 c σ1 l1 ok1 q => match c, q with
    | true, q => q.1 rfl Φ P1 K E F ok1 fun P2 x v σ2 l2 => k P2 x v σ2 (l1.trans l2)
    | false, q => q.2 rfl Φ P1 K E F ok1 fun P2 x v σ2 l2 => k P2 x v σ2 (l1.trans l2))
theorem w_andor {op : BoolOp} (h : We fs l σ fun v s => ∃ b, Tru v s b ∧ Br (match op with | .And => !b | .Or => b) (Q v s) (We fs r s Q)) : We fs (.BoolOp op [l, r] p) σ Q := fun Φ P K E F ok k => by
  show wpAny _ _ (eval l Φ.env >>= fun v => standAt p >>= fun _ => holding [v] (truthy v) >>= fun t => match op, t with
      | .And, false | .Or, true => pure v
      | _, _ => eval r Φ.env) _ _ _
  refine wpAny_bind (h Φ P _ E F ok fun P1 x a σ1 l1 ok1 r1 ⟨b, hb, q⟩ => wpAny_bind (wpAny_standAt (wpAny_bind (wpAny_holding (hb.run ok1 r1 fun P2 l2 ok2 => ?_)))))
  have stop : Q a σ1 → wpAny Φ.M Φ.A (pure x) K E P2.s := fun q => wpAny_pure (k P2 x a σ1 (l1.trans l2) ok2 (r1.le l2) q)
  have next : We fs r σ1 Q → wpAny Φ.M Φ.A (eval r Φ.env) K E P2.s := fun q => q Φ P2 K E F ok2 fun P3 y v σ3 l3 => k P3 y v σ3 ((l1.trans l2).trans l3)
  cases op <;> cases b
  · exact stop (q.1 rfl)
  · exact next (q.2 rfl)
  · exact next (q.2 rfl)
  · exact stop (q.1 rfl)
end
end Mine
end
section
namespace Mine
open PySem PySem.W PyProof.Rows
noncomputable def PG : Program := PySem.Challenge.pw_ku0030_02
noncomputable def fiOf (lam : Bool) (st : Stmt) : FI := match st with
  | .FunctionDef _ args body _ _ _ scope _ _ _ => { params := args.args.map (·.arg), vararg := args.vararg.map (·.arg), body, scope, lam }
  | _ => ⟨[], none, [], default, false⟩
noncomputable def stAt (l : List Stmt) (i : Nat) : Stmt := l.getD i (.Pass ⟨0, 0, 0, 0⟩)
noncomputable def clsBody (st : Stmt) : List Stmt := match st with
  | .ClassDef _ _ _ b _ _ _ _ _ _ _ => b
  | _ => []
noncomputable def fnAt (i : Nat) (lam : Bool) : FI := fiOf lam (stAt PG.main.body i)
noncomputable def mtAt (i : Nat) : FI := fiOf false (stAt (clsBody (stAt PG.main.body 24)) i)
noncomputable def fnOf (a : Nat) : FI :=
  if a = 50 then fnAt 4 false else if a = 77 then fnAt 9 true else if a = 94 then fnAt 12 true else if a = 111 then fnAt 16 false else if a = 118 then fnAt 18 true else if a = 177 then mtAt 1
  else if a = 184 then mtAt 2 else if a = 189 then mtAt 3 else if a = 196 then mtAt 4 else if a = 203 then mtAt 5 else if a = 217 then mtAt 7 else if a = 224 then mtAt 8
  else if a = 243 then fnAt 26 false else if a = 248 then fnAt 27 false else fnAt 28 false
noncomputable def ctOf (a : Nat) : FI := if a = 234 then mtAt 0 else fiOf false (stAt (clsBody (stAt PG.main.body 22)) 1)
noncomputable def globs : List (String × Value) := [("_twin_re_7", .ref 43), ("HEADER_TOKEN_RE", .ref 55), ("HEADER_QUOTED_VALUE_RE", .ref 60), ("HEADER_VALUE_RE", .ref 65), ("HEADER_ESCAPE_RE", .ref 70), ("HEADER_JOIN_TOKEN_RE", .ref 82), ("HEADER_JOIN_ESCAPE_RE", .ref 87), ("_twin_re_1", .ref 99), ("_special_chars_map", .ref 101), ("_NODE_OUT", .int (-1) 834), ("_NODE_DONE", .int (-2) 837), ("_NodeInfo", .ref 137), ("CycleError", .ref 152), ("TopologicalSorter", .ref 234),
  ("unmatched", .ref 50), ("split_header_words", .ref 77), ("join_header_words", .ref 94), ("escape", .ref 111), ("_translate", .ref 118), ("_law_takes", .ref 243), ("_law_given", .ref 248), ("law", .ref 253), ("__doc__", .none), ("__package__", .none), ("__loader__", .builtin "__main__.__loader__#opaque"), ("__spec__", .none)]
noncomputable def libs : List Nat := [50, 77, 94, 111, 118, 177, 184, 189, 196, 203, 217, 224, 243, 248, 253]
noncomputable def TT : Top0 where
  lib := fun a => if libs.contains a then some (fnOf a) else none
  ctor := fun a => if a = 234 ∨ a = 137 then some (ctOf a) else none
  glob := fun x => (globs.find? fun (p : String × Value) => x == (p.1 : Str)).map (·.2)
theorem lib50 : TT.lib 50 = some (fnOf 50) := rfl
theorem lib77 : TT.lib 77 = some (fnOf 77) := rfl
theorem lib94 : TT.lib 94 = some (fnOf 94) := rfl
theorem lib111 : TT.lib 111 = some (fnOf 111) := rfl
theorem lib118 : TT.lib 118 = some (fnOf 118) := rfl
theorem lib177 : TT.lib 177 = some (fnOf 177) := rfl
theorem lib184 : TT.lib 184 = some (fnOf 184) := rfl
theorem lib189 : TT.lib 189 = some (fnOf 189) := rfl
theorem lib196 : TT.lib 196 = some (fnOf 196) := rfl
theorem lib217 : TT.lib 217 = some (fnOf 217) := rfl
theorem lib224 : TT.lib 224 = some (fnOf 224) := rfl
theorem lib243 : TT.lib 243 = some (fnOf 243) := rfl
theorem lib248 : TT.lib 248 = some (fnOf 248) := rfl
theorem ctor234 : TT.ctor 234 = some (ctOf 234) := rfl
theorem ctor137 : TT.ctor 137 = some (ctOf 137) := rfl
theorem gl__twin_re_7 : TT.glob (Str.ofString "_twin_re_7") = some (.ref 43) := rfl
theorem gl_HEADER_TOKEN_RE : TT.glob (Str.ofString "HEADER_TOKEN_RE") = some (.ref 55) := rfl
theorem gl_HEADER_QUOTED_VALUE_RE : TT.glob (Str.ofString "HEADER_QUOTED_VALUE_RE") = some (.ref 60) := rfl
theorem gl_HEADER_VALUE_RE : TT.glob (Str.ofString "HEADER_VALUE_RE") = some (.ref 65) := rfl
theorem gl_HEADER_ESCAPE_RE : TT.glob (Str.ofString "HEADER_ESCAPE_RE") = some (.ref 70) := rfl
theorem gl_HEADER_JOIN_TOKEN_RE : TT.glob (Str.ofString "HEADER_JOIN_TOKEN_RE") = some (.ref 82) := rfl
theorem gl_HEADER_JOIN_ESCAPE_RE : TT.glob (Str.ofString "HEADER_JOIN_ESCAPE_RE") = some (.ref 87) := rfl
theorem gl__twin_re_1 : TT.glob (Str.ofString "_twin_re_1") = some (.ref 99) := rfl
theorem gl__special_chars_map : TT.glob (Str.ofString "_special_chars_map") = some (.ref 101) := rfl
theorem gl__NODE_OUT : TT.glob (Str.ofString "_NODE_OUT") = some (.int (-1) 834) := rfl
theorem gl__NODE_DONE : TT.glob (Str.ofString "_NODE_DONE") = some (.int (-2) 837) := rfl
theorem gl__NodeInfo : TT.glob (Str.ofString "_NodeInfo") = some (.ref 137) := rfl
theorem gl_TopologicalSorter : TT.glob (Str.ofString "TopologicalSorter") = some (.ref 234) := rfl
theorem gl_unmatched : TT.glob (Str.ofString "unmatched") = some (.ref 50) := rfl
theorem gl_split_header_words : TT.glob (Str.ofString "split_header_words") = some (.ref 77) := rfl
theorem gl_join_header_words : TT.glob (Str.ofString "join_header_words") = some (.ref 94) := rfl
theorem gl_escape : TT.glob (Str.ofString "escape") = some (.ref 111) := rfl
theorem gl__translate : TT.glob (Str.ofString "_translate") = some (.ref 118) := rfl
theorem gl__law_takes : TT.glob (Str.ofString "_law_takes") = some (.ref 243) := rfl
theorem gl__law_given : TT.glob (Str.ofString "_law_given") = some (.ref 248) := rfl
theorem gl_law : TT.glob (Str.ofString "law") = some (.ref 253) := rfl
theorem gn_len : TT.glob (Str.ofString "len") = none := rfl
theorem bl_len : bootBuiltins (Str.ofString "len") = some (.builtin "len") := by decide +kernel
theorem gn_range : TT.glob (Str.ofString "range") = none := rfl
theorem bl_range : bootBuiltins (Str.ofString "range") = some (.type "range") := by decide +kernel
theorem gn_isinstance : TT.glob (Str.ofString "isinstance") = none := rfl
theorem bl_isinstance : bootBuiltins (Str.ofString "isinstance") = some (.builtin "isinstance") := by decide +kernel
theorem gn_any : TT.glob (Str.ofString "any") = none := rfl
theorem bl_any : bootBuiltins (Str.ofString "any") = some (.builtin "any") := by decide +kernel
theorem gn_all : TT.glob (Str.ofString "all") = none := rfl
theorem bl_all : bootBuiltins (Str.ofString "all") = some (.builtin "all") := by decide +kernel
theorem gn_sum : TT.glob (Str.ofString "sum") = none := rfl
theorem bl_sum : bootBuiltins (Str.ofString "sum") = some (.builtin "sum") := by decide +kernel
theorem gn_sorted : TT.glob (Str.ofString "sorted") = none := rfl
theorem bl_sorted : bootBuiltins (Str.ofString "sorted") = some (.builtin "sorted") := by decide +kernel
theorem gn_list : TT.glob (Str.ofString "list") = none := rfl
theorem bl_list : bootBuiltins (Str.ofString "list") = some (.type "list") := by decide +kernel
theorem gn_tuple : TT.glob (Str.ofString "tuple") = none := rfl
theorem bl_tuple : bootBuiltins (Str.ofString "tuple") = some (.type "tuple") := by decide +kernel
theorem gn_bool : TT.glob (Str.ofString "bool") = none := rfl
theorem bl_bool : bootBuiltins (Str.ofString "bool") = some (.type "bool") := by decide +kernel
theorem gn_set : TT.glob (Str.ofString "set") = none := rfl
theorem bl_set : bootBuiltins (Str.ofString "set") = some (.type "set") := by decide +kernel
theorem gn_iter : TT.glob (Str.ofString "iter") = none := rfl
theorem bl_iter : bootBuiltins (Str.ofString "iter") = some (.builtin "iter") := by decide +kernel
theorem gn_str : TT.glob (Str.ofString "str") = none := rfl
theorem bl_str : bootBuiltins (Str.ofString "str") = some (.type "str") := by decide +kernel
end Mine
end
section
namespace Mine
open PySem PySem.W PyProof.Rows PySem.Calls PySem.SeqAt
open PySem.W.Fast in
noncomputable def stepF (p : Program) (w : World) : SharedT → Thread → Option (SharedT × Thread) := tw10156331382660048174 (tw11892475500146522536 tw14364793385576792824) p w
theorem stepF_eq (p : Program) (w : World) : stepF p w = stepT (denote treeTable) p w := by
  unfold stepF
  rw [← PySem.W.Fast.te10156331382660048174, ← PySem.W.Fast.te11892475500146522536, ← PySem.W.Fast.te14364793385576792824]
noncomputable def impT (p : Program) (w : World) (n : Nat) : SharedT → Thread → Option SharedT :=
  @Nat.rec (fun _ => SharedT → Thread → Option SharedT) (fun _ _ => none) (fun _ ih s t =>
    match t.atExitBegin with
    | some l => match l with | [] => some s | _ => none
    | none => match stepF p w s t with
      | some x => ih x.1 x.2
      | none => none) n
noncomputable def runT (p : Program) (w : World) (n₀ : Nat) (ann : Option Value) (n : Nat) : SharedT → Thread → Option SharedT :=
  @Nat.rec (fun _ => SharedT → Thread → Option SharedT) (fun _ _ => none) (fun _ ih s t =>
    match through t with
    | true => some s
    | false => match stepOk n₀ ann t with
      | false => none
      | true => match stepF p w s t with
        | some x => ih x.1 x.2
        | none => none) n
theorem impT_ok {p : Program} {w : World} : ∀ {n : Nat} {s s' : SharedT} {t : Thread}, impT p w n s t = some s' → importEnds treeTable p w n s.abs t = some s'.abs
  | 0, s, s', t, h => nomatch h
  | n + 1, s, s', t, h => by
    have h : (match t.atExitBegin with
      | some l => match l with | [] => some s | _ => none
      | none => match stepF p w s t with | some x => impT p w n x.1 x.2 | none => none) = some s' := h
    rw [stepF_eq] at h
    unfold importEnds
    cases e : t.atExitBegin with
    | some l =>
      rw [e] at h
      cases l with
      | nil => cases h; rfl
      | cons a l => cases h
    | none =>
      rw [e] at h
      cases q : stepT (denote treeTable) p w s t with
      | none => rw [q] at h; cases h
      | some x => rw [q] at h; rw [stepT_spec q]; exact impT_ok h
theorem runT_ok {p : Program} {w : World} {n₀ : Nat} {ann : Option Value} : ∀ {n : Nat} {s s' : SharedT} {t : Thread}, runT p w n₀ ann n s t = some s' → topRun treeTable p w n₀ ann n s.abs t = some s'.abs
  | 0, s, s', t, h => nomatch h
  | n + 1, s, s', t, h => by
    have h : (match through t with
      | true => some s
      | false => match stepOk n₀ ann t with
        | false => none
        | true => match stepF p w s t with | some x => runT p w n₀ ann n x.1 x.2 | none => none) = some s' := h
    rw [stepF_eq] at h
    unfold topRun
    cases e : through t with
    | true => rw [e] at h; cases h; rfl
    | false =>
      rw [e] at h
      cases k : stepOk n₀ ann t with
      | false => rw [k] at h; cases h
      | true =>
        rw [k] at h
        cases q : stepT (denote treeTable) p w s t with
        | none => rw [q] at h; cases h
        | some x => rw [q] at h; dsimp only; rw [stepT_spec q]; exact runT_ok h
noncomputable def mkTree : List Obj → Nat → BT → Option BT
  | [], _, t => some t
  | o :: r, n, t => match ((t.ins n o).get n).isSome with
    | true => mkTree r (n + 1) (t.ins n o)
    | false => none
theorem mkTree_ok {life : Life} : ∀ (l : List Obj) (n : Nat) (t t' : BT) (h : Heap), mkTree l n t = some t' → absHeap t n life = h → absHeap t' (n + l.length) life = ⟨h.objs ++ l.toArray, life⟩
  | [], n, t, t', h, e, x => by
    cases e; subst x
    show absHeap t n life = ⟨_ ++ #[], life⟩
    rw [Array.append_empty]; rfl
  | o :: r, n, t, t', h, e, x => by
    unfold mkTree at e
    cases g : ((t.ins n o).get n).isSome with
    | false => rw [g] at e; cases e
    | true =>
      rw [g] at e
      have := mkTree_ok (life := life) r (n + 1) _ t' _ e (absHeap_ins g)
      rw [List.length_cons, show n + (r.length + 1) = n + 1 + r.length by lia, this, x]
      exact congrArg (Heap.mk · life) (by rw [← Array.toList_inj]; simp [Heap.push])
noncomputable def toT (s : Shared) : Option SharedT := (mkTree s.heap.objs.toList 0 .nil).map fun t => ⟨t, s.heap.objs.size, s.heap.life, s.gens, s.drawn, s.toks, s.os⟩
theorem toT_ok {s : Shared} {x : SharedT} (h : toT s = some x) : x.abs = s := by
  obtain ⟨t, ht, rfl⟩ := Option.map_eq_some_iff.mp h
  have := mkTree_ok (life := s.heap.life) _ _ _ _ _ ht rfl
  rw [Nat.zero_add] at this
  show Shared.mk (absHeap t s.heap.objs.toList.length s.heap.life) _ _ _ _ = s
  rw [this]
  obtain ⟨⟨⟨l⟩, life⟩, g, d, k, o⟩ := s
  exact congrArg (fun a => Shared.mk (Heap.mk a life) g d k o) (Array.toList_inj.mp (by simp [absHeap, BT.list]))
noncomputable def openT (p : Program) (w : World) (N : Nat) : Option Shared :=
  (toT (start (opening p)).1).bind fun x => (impT (opening p) w N x (start (opening p)).2).bind fun s => fenceModules? p s.abs
noncomputable def topT (p : Program) (w : World) (N : Nat) (s₀ : Shared) : Option Shared := match s₀.heap.isNs mainGlobals && s₀.gens.size == 0 with
  | true => (toT s₀).bind fun x => (runT p w s₀.heap.objs.size (s₀.heap.nsMap mainGlobals "__annotations__") N x (topStub p)).bind fun s₁ =>
    match staticsOk (importedModules p.main.body) s₀.heap s₁.abs.heap && namesBound p s₁.abs.heap && gensDone s₁.abs && laidKept s₀.heap s₁.abs.heap with
      | true => some s₁.abs
      | false => none
  | false => none
theorem openT_ok {p : Program} {w : World} {N : Nat} {s : Shared} (h : openT p w N = some s) : fencedOpening treeTable p w N = some s := by
  obtain ⟨x, hx, h⟩ := Option.bind_eq_some_iff.mp h
  obtain ⟨y, hy, h⟩ := Option.bind_eq_some_iff.mp h
  unfold fencedOpening
  have := impT_ok hy
  rw [toT_ok hx] at this
  rw [this]
  exact h
theorem topT_ok {p : Program} {w : World} {N : Nat} {s₀ s : Shared} (h : topT p w N s₀ = some s) : topFrom treeTable p w N s₀ = some s := by
  unfold topT at h
  unfold topFrom
  cases e : s₀.heap.isNs mainGlobals && s₀.gens.size == 0 with
  | false => rw [e] at h; cases h
  | true =>
    rw [e] at h
    obtain ⟨x, hx, h⟩ := Option.bind_eq_some_iff.mp h
    obtain ⟨y, hy, h⟩ := Option.bind_eq_some_iff.mp h
    have := runT_ok hy
    rw [toT_ok hx] at this
    dsimp only
    rw [this]
    exact h
theorem left_of {p q : Program} {loose : List Str} {Xt : Shared → Bool} {α : Type} {Yf : Shared → α} {Ya : World → α} {N : Nat}
    (h : ∀ w : World, ((openT p w N).bind (topT p w N)).map (fun s => (PySem.W.Fast.tw4187177175401517315 q loose (importedModules p.main.body) Xt true s, Yf s)) = some (openGood q loose, Ya w)) : LeftO p q loose Xt Yf Ya N := fun w => by
  obtain ⟨s, hs, e⟩ := Option.map_eq_some_iff.mp (h w)
  obtain ⟨s₀, h0, h1⟩ := Option.bind_eq_some_iff.mp hs
  unfold openEnds
  rw [openT_ok h0, show (some s₀).bind (topFrom treeTable p w N) = some s from topT_ok h1, PySem.W.Fast.te4187177175401517315]
  exact congrArg some e
end Mine
end
section
namespace Mine
open PySem PySem.W PyProof.Rows PySem.Calls PySem.SeqAt
noncomputable def tabs1 : List (Addr × Addr) := [(76, 72), (93, 89), (117, 113)]
noncomputable def tabA : List Addr := [113, 89, 72]
noncomputable def adrs : List Addr := (List.range 254).filter fun a => !tabA.contains a
noncomputable def fragOf (h : Heap) : Frag := adrs.filterMap fun a => (h.get? a).map fun o => (a, o)
theorem frag_lk {h : Heap} {a : Addr} {o : Obj} : ∀ {l : List Addr}, (l.filterMap fun a => (h.get? a).map fun o => (a, o)).lookup a = some o → h.get? a = some o ∧ a ∈ l
  | [], e => nomatch e
  | b :: l, e => by
    rw [List.filterMap_cons] at e
    cases g : h.get? b with
    | none => rw [g] at e; exact (frag_lk e).imp id (List.mem_cons_of_mem _)
    | some o' =>
      rw [g] at e
      have e : (match a == b with | true => some o' | false => List.lookup a (l.filterMap fun a => (h.get? a).map fun o => (a, o))) = some o := e
      cases q : a == b with
      | true => rw [q] at e; cases e; cases eq_of_beq q; exact ⟨g, .head _⟩
      | false => rw [q] at e; exact (frag_lk e).imp id (List.mem_cons_of_mem _)
theorem fragOf_in (h : Heap) : (fragOf h).In h := fun _ _ e => (frag_lk e).1
theorem fragOf_none (h : Heap) : ∀ a ∈ tabA, (fragOf h).lookup a = none := fun a m => by
  cases e : (fragOf h).lookup a with
  | none => rfl
  | some o => exact absurd (frag_lk e).2 ((by decide +kernel : ∀ a ∈ tabA, a ∉ adrs) a m)
noncomputable def fdV (K : Frag) (fd : FuncData) := (fd.scope, fd.body, fd.globals, fd.builtins, fd.closure, codeIn K fd.code fd.qualname, fd.code, fd.params.posonlyargs.isEmpty, fd.params.kwonlyargs.isEmpty, fd.params.kwarg.isNone, fd.defaults, fd.params.args.map (·.arg), fd.params.vararg.map (·.arg))
noncomputable def fnV (K : Frag) (a : Addr) := match K.lookup a with
  | some ⟨_, _, .func fd, _⟩ => some (fdV K fd)
  | _ => none
noncomputable def fns : List (Addr × FI × Value) := libs.map (fun a => (a, fnOf a, .none)) ++ [(170, ctOf 234, .ref 163), (133, ctOf 137, .none)]
noncomputable def meths : List (String × Addr) := [("add", 184), ("prepare", 189), ("get_ready", 196), ("is_active", 203), ("done", 217), ("_find_cycle", 224), ("_get_nodeinfo", 177)]
noncomputable def slots : List (String × Nat) := [("node", 0), ("npredecessors", 1), ("successors", 2)]
noncomputable def es3 (K : Frag) : Array DictEntry := match K.lookup 3 with | some ⟨_, _, .dict es _, _⟩ => es | _ => #[]
noncomputable def pats : List (Addr × Array Nat × Nat × String × Nat × Nat) :=
  [(43, c43, 0, "^[=\\s;]*", 292, 317), (55, c55, 1, "^\\s*([^=\\s;,]+)", 329, 374), (60, c60, 1, "^\\s*=\\s*\\\"([^\\\"\\\\]*(?:\\\\.[^\\\"\\\\]*)*)\\\"", 377, 452), (65, c65, 1, "^\\s*=\\s*([^\\s;,]*)", 455, 507), (70, c70, 1, "\\\\(.)", 510, 530),
   (82, c82, 0, "[!#$%&'*+\\-.^_`|~0-9A-Za-z]+", 549, 575), (87, c87, 1, "([\\\"\\\\])", 578, 603), (99, c99, 1, "([&~|])", 618, 653)]
noncomputable def wants (c : Nat) (v : Option Value) : Bool := if special c then (match v with | some (.str s _) => s == ⟨#[92, c]⟩ | _ => false) else v.isNone
noncomputable def fk0 (K : Frag) := fns.map fun x => fnV K x.1
noncomputable def fv0 : type_of% (fk0 []) := fns.map fun x => some (x.2.1.scope, .stmts x.2.1.body, mainGlobals, builtinsNs, [], true, .ref (x.1 - 1), true, true, true, x.2.2, x.2.1.params, x.2.1.vararg)
noncomputable def fk1 (K : Frag) := [plainGet K 234 "", hasDictIn K 234, plainOver K 234, plainGet K 137 "", isClsIn K 137, plainOver K 137, makesIn K 234, isFn K (.ref 170), keepIn K (.ref 234), makesIn K 137, isFn K (.ref 133), keepIn K (.ref 137)]
noncomputable def fv1 : type_of% (fk1 []) := [true, true, true, true, true, true, true, true, true, true, true, true]
noncomputable def fk2 (K : Frag) := [findIn K (.ref 234) "__setattr__", findIn K (.ref 137) "__setattr__", findIn K (.ref 234) "__init__", findIn K (.ref 137) "__init__"]
noncomputable def fv2 : type_of% (fk2 []) := [some (some (.builtin "object.__setattr__")), some (some (.builtin "object.__setattr__")), some (some (.ref 170)), some (some (.ref 133))]
noncomputable def fk3 (K : Frag) := tsAttrs.map fun n => findIn K (.ref 234) n
noncomputable def fv3 : type_of% (fk3 []) := tsAttrs.map fun _ => some none
noncomputable def fk4 (K : Frag) := meths.map fun x => (findIn K (.ref 234) x.1, typeIn K (.ref x.2), specialIn K (.ref x.2) "__get__", takesIn K (.ref x.2), fnIn K x.2, keepIn K (.ref x.2))
noncomputable def fv4 : type_of% (fk4 []) := meths.map fun x => (some (some (.ref x.2)), some (.type "function"), some (some (.builtin "function.__get__")), some false, true, true)
noncomputable def fk5 (K : Frag) := slots.map fun x => (findIn K (.ref 137) x.1, specialIn K (.ref (138 + x.2)) "__get__", takesIn K (.ref (138 + x.2)), slotIn K (138 + x.2) 137, typeIn K (.ref (138 + x.2)))
noncomputable def fv5 : type_of% (fk5 []) := slots.map fun x => (some (some (.ref (138 + x.2))), some (some (.builtin "member_descriptor.__get__")), some true, some x.2, some (.type "member_descriptor"))
noncomputable def fk6 (K : Frag) := globs.map fun p => nsFind (es3 K) (Str.ofString p.1)
noncomputable def fv6 : type_of% (fk6 []) := globs.map fun p => some p.2
noncomputable def fk7 (K : Frag) := nsFind (es3 K) "__builtins__"
noncomputable def fv7 : type_of% (fk7 []) := some (.ref 4)
noncomputable def fk8 (K : Frag) := ((es3 K).toList.all fun e => match e.key with | .str n _ => (TT.glob n).isSome || (bootBuiltins n).isNone || n == "__name__" | _ => false)
noncomputable def fv8 : type_of% (fk8 []) := true
noncomputable def fk9 (K : Frag) := tabs1.map fun p => codeHdIn K p.1 p.2
noncomputable def fv9 : type_of% (fk9 []) := tabs1.map fun _ => true
noncomputable def fk10 (K : Frag) := (match K.lookup 163 with | some ⟨_, _, .seq xs _, _⟩ => some xs | _ => none)
noncomputable def fv10 : type_of% (fk10 []) := some #[.none]
noncomputable def fk11 (K : Frag) := pats.map fun x => (K.lookup x.1, K.lookup (x.1 - 1))
noncomputable def fv11 : type_of% (fk11 []) := pats.map fun x => (some { cls := .type "re.Pattern", data := .fields #[.str x.2.2.2.1 x.2.2.2.2.1, .int 32 x.2.2.2.2.2, rawInt x.2.2.1, .none, .none, .ref (x.1 - 1), rawInt 0] },
     some { cls := .type "tuple", data := .seq (x.2.1.map fun (w : Nat) => rawInt (w : Int)) })
noncomputable def fk12 (K : Frag) := match K.lookup 101 with | some ⟨c, d, .dict es _, sl⟩ => some (c, d, sl, (es.toList.all fun e => match e.key with | .int i _ => e.hash == hashInt i | _ => false), (List.range 128).all fun c => wants c (findBy Value.isInt es (c : Int))) | _ => none
noncomputable def fv12 : type_of% (fk12 []) := some (.type "dict", none, #[], true, true)
noncomputable def fk13 (K : Frag) := match K.lookup 152 with
  | some ⟨c, _, .cls cd, sl⟩ => (match K.lookup cd.ns with
    | some ⟨_, _, .dict es _, _⟩ => some (c, cd.mro, cd.hasDel, sl.toList.length, sl.toList[4]?, (es.toList.all fun e => match e.key with | .str _ _ => true | _ => false), nsFind es "__init__")
    | _ => none)
  | _ => none
noncomputable def fv13 : type_of% (fk13 []) := some (.type "type", .ref 152 :: vErr, false, 6, some (some (.builtin "ValueError.__new__")), true, none)
noncomputable def factsK (K : Frag) := (fk0 K, fk1 K, fk2 K, fk3 K, fk4 K, fk5 K, fk6 K, fk7 K, fk8 K, fk9 K, fk10 K, fk11 K, fk12 K, fk13 K)
noncomputable def factsV := (fv0, fv1, fv2, fv3, fv4, fv5, fv6, fv7, fv8, fv9, fv10, fv11, fv12, fv13)
noncomputable def HK : Hook where
  α := _
  obs := fun s => (factsK (fragOf s.heap), tabA.map s.heap.get?)
  val := fun _ => (factsV, tabA.map fun _ => some (tabObj #[]))
  says := fun _ h => ∃ K : Frag, K.In h ∧ factsK K = factsV ∧ (∀ a ∈ tabA, K.lookup a = none) ∧ ∀ P ∈ tabA, h.get? P = some (tabObj #[])
  of := fun _ s x => ⟨_, fragOf_in _, (Prod.mk.inj x).1, fragOf_none _, List.map_inj_left.mp (Prod.mk.inj x).2⟩
  keeps := fun _ _ _ ⟨K, a, b, c, d⟩ k => ⟨K, a.keeps k, b, c, fun P hP => k _ _ (d P hP)⟩
end Mine
end
section
namespace Mine
open PySem PySem.W PyProof.Rows PySem.Calls PySem.SeqAt
noncomputable def keepV : List Nat := [0, 1, 3, 4, 5, 6, 7, 8, 9, 10, 11, 12, 13, 15, 16, 18, 20, 21, 22, 23, 24, 26, 27, 28]
noncomputable def qV : Program := { PG with main := { PG.main with body := keepV.filterMap fun i => PG.main.body[i]? } }
noncomputable def looseV : List Str := ["_twin_re_7", "HEADER_TOKEN_RE", "HEADER_QUOTED_VALUE_RE", "HEADER_VALUE_RE", "HEADER_ESCAPE_RE", "HEADER_JOIN_TOKEN_RE", "HEADER_JOIN_ESCAPE_RE", "_twin_re_1", "_special_chars_map", "_NodeInfo"]
noncomputable def look (w : World) : Prop := ((openT PG w 6734).bind (topT PG w 6734)).map (fun s => (PySem.W.Fast.tw4187177175401517315 qV looseV (importedModules PG.main.body) (fun s => xlAt qV [] s && recOk [] s) true s, HK.obs s)) = some (openGood qV looseV, HK.val w)
theorem look_ff : ∀ w : World, look ((w.withFollow "special-get-raises" false).withFollow "comprehension-iter-twice" false) := by unfold look; intro w; kernel_rfl
theorem look_ft : ∀ w : World, look ((w.withFollow "special-get-raises" false).withFollow "comprehension-iter-twice" true) := by unfold look; intro w; kernel_rfl
theorem look_tf : ∀ w : World, look ((w.withFollow "special-get-raises" true).withFollow "comprehension-iter-twice" false) := by unfold look; intro w; kernel_rfl
theorem look_tt : ∀ w : World, look ((w.withFollow "special-get-raises" true).withFollow "comprehension-iter-twice" true) := by unfold look; intro w; kernel_rfl
theorem left : LeftO PG qV looseV (fun s => xlAt qV [] s && recOk [] s) HK.obs HK.val 6734 :=
  left_of (byRow2 "comprehension-iter-twice" (P := look) (byRow2 "special-get-raises" (P := fun w => look (w.withFollow "comprehension-iter-twice" false)) look_ff look_tf) (byRow2 "special-get-raises" (P := fun w => look (w.withFollow "comprehension-iter-twice" true)) look_ft look_tt))
end Mine
end
section
namespace Mine
open PySem PySem.W PyProof.Rows PySem.Calls PySem.SeqAt
inductive LI (σ : St) : AV → List AV → Prop
  | lst (vs : List AV) : LI σ (.lst vs) vs
  | ref {a : Addr} {vs : List AV} (h : σ.H a = some (.list vs)) : LI σ (.con (.ref a)) vs
section
variable {Φ : Fm} {fs : FS} {σ : St} {P : Pt} {a b v : AV} {x y : Value} {vs ws : List AV} {c d : Bool} {i j : Int} {s t : Str} {k : Nat} {n : Nat}
@[elab_as_elim] theorem LI.e {m : Value → Prop} (h : LI σ v vs) (ok : Ok Φ σ P) (r : VR P v x) (k : ∀ l its, P.s.heap.IsList l its → VRs P vs its.toList → m (.ref l)) : m x := by
  cases h with
  | lst => exact r.eL fun a its e _ q => k a its e q
  | ref h => exact r.eC (let ⟨o, e, its, n, d, q⟩ := ok.obj h; k _ its ⟨o, e, congrArg Obj.cls d, n, congrArg Obj.data d⟩ q)
theorem op_int {t : Value → Value → Sem Value} (h : ∀ Φ P u w, Lf Φ P (t (.int i u) (.int j w)) fun P' z => VR P' v z) : Op2 t (.int i) (.int j) σ v := fun Φ P x y _ ok ra rb => ra.eI fun u => rb.eI fun w => h Φ P u w
theorem op_str {p : Value → Value → Sem Value} (h : ∀ Φ P u w, Lf Φ P (p (.str s u) (.str t w)) fun P' z => VR P' v z) : Op2 p (.str s) (.str t) σ v := fun Φ P x y _ ok ra rb => ra.eS fun u => rb.eS fun w => h Φ P u w
theorem o_addI : Bop .Add (.int i) (.int j) σ (.int (i + j)) := op_int fun Φ P u w Q E q => add_int (q _ _ _ (fun _ _ e => e) (.int _ _))
theorem o_modI (h : 0 < j) : Bop .Mod (.int i) (.int j) σ (.int (i.fmod j)) := op_int fun Φ P u w Q E q => mod_int' (Int.ne_of_gt h) (q _ _ _ (fun _ _ e => e) (.int _ _))
theorem o_addS (h : s.length + t.length ≤ lim) : Bop .Add (.str s) (.str t) σ (.str (s ++ t)) := op_str fun Φ P u w Q E q => add_str (fun t' tk => q _ tk _ (fun _ _ e => e) (.str _ _)) (lim_size h)
theorem add_at {l m : Addr} {its its2 : Array Value} (hl : P.s.heap.IsList l its) (hm : P.s.heap.IsList m its2) (q1 : VRs P vs its.toList) (q2 : VRs P ws its2.toList) (h : vs.length + ws.length ≤ lim) : Lf Φ P (binaryOp .Add (.ref l) (.ref m)) fun P' z => VR P' (.lst (vs ++ ws)) z := by
  intro Q E q
  obtain ⟨⟨cls, dd, data, sl⟩, ho, hc, n, hd⟩ := hl
  obtain ⟨⟨cls2, dd2, data2, sl2⟩, ho2, hc2, n2, hd2⟩ := hm
  simp only at hc hd hc2 hd2
  subst hc hd hc2 hd2
  refine concat_meets ⟨_, ho, rfl⟩ ⟨_, ho2, rfl⟩ noFill_list_add seq_list_add PySem.F.slot_list_add PySem.F.entry_list_add (PySem.F.args_list_add_2 _ _) (list_addW l m its its2 n n2 dd dd2 sl sl2 (lim_size (by rw [q1.size, q2.size]; exact h))) ⟨ho, ho2, ?_⟩
  have kp := keep_push P.s.heap { cls := Value.type "list", data := Data.seq (its ++ its2) }
  refine q _ P.s.toks _ kp (.lst ⟨_, Heap.get?_push_size _ rfl, rfl, _, rfl⟩ (im_push rfl) ?_)
  rw [Array.toList_append]
  exact (q1.append q2).le (up_le kp)
theorem o_addL (h1 : LI σ a vs) (h2 : LI σ b ws) (h : vs.length + ws.length ≤ lim) : Bop .Add a b σ (.lst (vs ++ ws)) := fun Φ P x y _ ok ra rb => h1.e ok ra fun l its hl q1 => h2.e ok rb fun m its2 hm q2 => add_at hl hm q1 q2 h
noncomputable def EqV (d : Nat) (a b : AV) (c : Bool) : Prop :=
  (∀ P x, VR P a x → VR P b x → c = true) ∧ ∀ P A x y, A.units + d < cLine → VR P a x → VR P b y → EqAt A P.s x y c ∧ RcAt A P.s x y c ∧ RcNeAt A P.s x y (!c)
noncomputable def EqsAt (A : Around) (s : Shared) (xs ys : List Value) (c : Bool) : Prop :=
  ∃ e : Nat → Bool, (∀ j (h1 : j < xs.length) (h2 : j < ys.length), EqAt A s xs[j] ys[j] (e j)) ∧ c = ((List.range (min xs.length ys.length)).all e && xs.length == ys.length)
noncomputable def EqVs (d : Nat) (as bs : List AV) (c : Bool) : Prop :=
  (∀ P xs, VRs P as xs → VRs P bs xs → c = true) ∧ ∀ P A xs ys, A.units + d < cLine → VRs P as xs → VRs P bs ys → EqsAt A P.s xs ys c
theorem dec_beq {α : Type} [DecidableEq α] (a b : α) : decide (a = b) = (a == b) := by rw [Bool.eq_iff_iff, decide_eq_true_iff, beq_iff_eq]
theorem EqsAt.cons {A : Around} {s : Shared} {xs ys : List Value} {x y : Value} {a b : Bool} (h : EqAt A s x y a) (q : EqsAt A s xs ys b) : EqsAt A s (x :: xs) (y :: ys) (a && b) := by
  obtain ⟨e, h2, h3⟩ := q
  refine ⟨fun j => Nat.casesOn j a e, fun j p1 p2 => ?_, ?_⟩
  · cases j with
    | zero => exact h
    | succ j => exact h2 j (Nat.lt_of_succ_lt_succ p1) (Nat.lt_of_succ_lt_succ p2)
  · rw [h3, List.length_cons, List.length_cons, Nat.succ_min_succ, List.range_succ_eq_map, List.all_cons, List.all_map, Bool.and_assoc]
    exact congrArg (a && ·) (congrArg (_ && ·) (by rw [Bool.eq_iff_iff, beq_iff_eq, beq_iff_eq, Nat.succ_inj]))
theorem v_nil : EqVs n [] [] true := ⟨fun _ _ _ _ => rfl, fun P A xs ys _ ra rb => ra.eN (rb.eN ⟨fun _ => true, nofun, rfl⟩)⟩
theorem vs_nc {G : Prop} {xs : List Value} (ra : VRs P [] xs) (rb : VRs P (b :: ws) xs) : G := let ⟨_, _, e, _⟩ := rb.inv; nomatch (show xs = [] from ra.inv).symm.trans e
theorem v_nilc : EqVs n [] (b :: ws) false := ⟨fun P xs ra rb => vs_nc ra rb, fun P A xs ys _ ra rb => ra.eN (rb.eC fun _ _ _ _ => ⟨fun _ => true, nofun, rfl⟩)⟩
theorem v_cnil : EqVs n (a :: vs) [] false := ⟨fun P xs ra rb => vs_nc rb ra, fun P A xs ys _ ra rb => rb.eN (ra.eC fun _ _ _ _ => ⟨fun _ => true, (fun j _ h => nomatch h), rfl⟩)⟩
theorem VRs.uncons {xs : List Value} (r : VRs P (a :: vs) (x :: xs)) : VR P a x ∧ VRs P vs xs := let ⟨_, _, e, q1, q2⟩ := r.inv; ⟨(List.cons.inj e).1 ▸ q1, (List.cons.inj e).2 ▸ q2⟩
theorem v_cons (h : EqV n a b c) (hs : EqVs n vs ws d) : EqVs n (a :: vs) (b :: ws) (c && d) := ⟨fun P xs ra => ra.eC (m := fun xs => VRs P (b :: ws) xs → _) fun x ys ra ras rb => by rw [h.1 P x ra rb.uncons.1, hs.1 P ys ras rb.uncons.2]; rfl,
  fun P A xs ys hu ra rb => ra.eC fun _ _ ra ras => rb.eC fun _ _ rb rbs => EqsAt.cons (h.2 P A _ _ hu ra rb).1 (hs.2 P A _ _ hu ras rbs)⟩
theorem v_str : EqV n (.str s) (.str t) (decide (s = t)) := dec_beq s t ▸ ⟨fun P x ra rb => let ⟨_, e⟩ := ra.inv; let ⟨_, e'⟩ := rb.inv; beq_iff_eq.mpr (Value.str.inj (e.symm.trans e')).1,
  fun P A x y _ ra rb => ra.eS fun _ => rb.eS fun _ => ⟨EqAt.str_str _ _ _ _, RcAt.str_str _ _ _ _, RcNeAt.str_str _ _ _ _⟩⟩
theorem v_int : EqV n (.int i) (.int j) (decide (i = j)) := dec_beq i j ▸ ⟨fun P x ra rb => let ⟨_, e⟩ := ra.inv; let ⟨_, e'⟩ := rb.inv; beq_iff_eq.mpr (Value.int.inj (e.symm.trans e')).1,
  fun P A x y _ ra rb => ra.eI fun _ => rb.eI fun _ => ⟨EqAt.int_int _ _ _ _, RcAt.int_int _ _ _ _, RcNeAt.int_int _ _ _ _⟩⟩
theorem il_unique {h : Heap} {a : Addr} {x y : Array Value} (e : h.IsList a x) (e' : h.IsList a y) : x = y := by
  obtain ⟨o, e1, _, n, d⟩ := e
  obtain ⟨o', e1', _, n', d'⟩ := e'
  have z := d.symm.trans ((congrArg Obj.data (smj (e1.symm.trans e1'))).trans d')
  exact (Data.seq.inj z).1
theorem it_unique {h : Heap} {a : Addr} {x y : Array Value} (e : h.IsTuple a x) (e' : h.IsTuple a y) : x = y := by
  obtain ⟨o, e1, _, n, d⟩ := e
  obtain ⟨o', e1', _, n', d'⟩ := e'
  have z := d.symm.trans ((congrArg Obj.data (smj (e1.symm.trans e1'))).trans d')
  exact (Data.seq.inj z).1
theorem eq_refs {A : Around} {l m : Addr} (h : l = m → c = true) (hr : RcAt A P.s (.ref l) (.ref m) c) : EqAt A P.s (.ref l) (.ref m) c := by
  by_cases hlm : l = m
  · rw [h hlm, hlm]; exact EqAt.same _
  · exact EqAt.of_refs hlm hr
theorem in1_lt {A : Around} (hu : A.units + (n + 1) < cLine) : A.in1.units + n < cLine := Nat.lt_of_le_of_lt (Nat.le_of_eq (Nat.add_right_comm A.units 1 n)) hu
theorem ref_inj {l m : Addr} (h : (.ref l : Value) = .ref m) : l = m := Value.ref.inj h
theorem lst_same (h : EqVs n vs ws c) (ra : VR P (.lst vs) x) (rb : VR P (.lst ws) x) : c = true :=
  let ⟨_, _, e1, e, _, r⟩ := ra.inv; let ⟨_, _, e2, e', _, r'⟩ := rb.inv; h.1 P _ r (il_unique e ((ref_inj (e1.symm.trans e2)) ▸ e') ▸ r')
theorem tup_same (h : EqVs n vs ws c) (ra : VR P (.tup vs) x) (rb : VR P (.tup ws) x) : c = true :=
  let ⟨_, _, e1, e, _, r⟩ := ra.inv; let ⟨_, _, e2, e', _, r'⟩ := rb.inv; h.1 P _ r (it_unique e ((ref_inj (e1.symm.trans e2)) ▸ e') ▸ r')
theorem lists_at {A : Around} {l m : Addr} {its its2 : Array Value} (e : P.s.heap.IsList l its) (e' : P.s.heap.IsList m its2) (hu : A.units < cLine) (h : EqsAt A.in1 P.s its.toList its2.toList c) : RcAt A P.s (.ref l) (.ref m) c ∧ RcNeAt A P.s (.ref l) (.ref m) (!c) := by
  obtain ⟨f, h1, h2⟩ := h
  simp only [Array.length_toList] at h1 h2
  by_cases hsz : its.size = its2.size
  · rw [hsz, Nat.min_self, beq_self_eq_true, Bool.and_true] at h2
    rw [h2, ← hsz]
    exact ⟨RcAt.lists e e' hsz hu fun j p1 p2 => h1 j p1 p2, RcNeAt.lists e e' hsz hu fun j p1 p2 => h1 j p1 p2⟩
  · rw [beq_eq_false_iff_ne.mpr hsz, Bool.and_false] at h2
    rw [h2]
    exact ⟨RcAt.lists_lengths e e' (bne_iff_ne.mpr hsz) hu, RcNeAt.lists_lengths e e' (bne_iff_ne.mpr hsz) hu⟩
theorem tuples_at {A : Around} {l m : Addr} {its its2 : Array Value} (e : P.s.heap.IsTuple l its) (e' : P.s.heap.IsTuple m its2) (hu : A.units < cLine) (h : EqsAt A.in1 P.s its.toList its2.toList c) : RcAt A P.s (.ref l) (.ref m) c ∧ RcNeAt A P.s (.ref l) (.ref m) (!c) := by
  obtain ⟨f, h1, h2⟩ := h
  simp only [Array.length_toList] at h1 h2
  rw [h2]
  exact ⟨RcAt.tuples e e' hu fun j p1 p2 => h1 j p1 p2, RcNeAt.tuples e e' hu fun j p1 p2 => h1 j p1 p2⟩
theorem v_lst (h : EqVs n vs ws c) : EqV (n + 1) (.lst vs) (.lst ws) c := ⟨fun P x => lst_same h, fun P A x y hu ra => ra.eL (m := fun x => VR P (.lst ws) y → EqAt A P.s x y c ∧ RcAt A P.s x y c ∧ RcNeAt A P.s x y (!c)) fun l its e i r rb => rb.eL fun m its2 e' i' r' =>
  have k := lists_at e e' (Nat.lt_of_le_of_lt (Nat.le_add_right ..) hu) (h.2 P A.in1 _ _ (in1_lt hu) r r')
  ⟨eq_refs (fun z => lst_same h (.lst e i r) (z ▸ .lst e' i' r')) k.1, k⟩⟩
theorem v_tup (h : EqVs n vs ws c) : EqV (n + 1) (.tup vs) (.tup ws) c := ⟨fun P x => tup_same h, fun P A x y hu ra => ra.eT (m := fun x => VR P (.tup ws) y → EqAt A P.s x y c ∧ RcAt A P.s x y c ∧ RcNeAt A P.s x y (!c)) fun l its e i r rb => rb.eT fun m its2 e' i' r' =>
  have k := tuples_at e e' (Nat.lt_of_le_of_lt (Nat.le_add_right ..) hu) (h.2 P A.in1 _ _ (in1_lt hu) r r')
  ⟨eq_refs (fun z => tup_same h (.tup e i r) (z ▸ .tup e' i' r')) k.1, k⟩⟩
theorem cl80 {A : Around} (h : A.units ≤ 9000) : A.units + 80 < cLine := by have : cLine = 9900 := rfl; lia
theorem e_eq (h : EqV 80 a b c) : Cmp .Eq a b σ c := fun Φ P x y hu ok ra rb => .same fun Q E k => (h.2 P Φ.A x y (cl80 hu) ra rb).2.1 _ _ E Q (k _ fun _ _ => .bool c)
theorem e_ne (h : EqV 80 a b c) : Cmp .NotEq a b σ (!c) := fun Φ P x y hu ok ra rb => .same fun Q E k => (h.2 P Φ.A x y (cl80 hu) ra rb).2.2 _ _ E Q (k _ fun _ _ => .bool _)
noncomputable def isNoneV : AV → Option Bool
  | .none => some true
  | .str _ | .tup _ | .lst _ | .con (.ref _) => some false
  | _ => none
theorem isNone_at (h : isNoneV a = some c) (r : VR P a x) : plainIs x .none = true ∧ (x == .none) = c := by
  cases r <;> first | exact ⟨rfl, smj h⟩ | exact nos h | skip
  cases x <;> first | exact ⟨rfl, smj h⟩ | exact nos h
theorem i_is (h : isNoneV a = some c) : Cmp .Is a .none σ c := fun Φ P x y _ ok ra rb => .same fun Q E k => rb.eN (wpAny_is_plain (isNone_at h ra).1 ((isNone_at h ra).2 ▸ k _ fun _ _ => .bool _))
theorem i_isnt (h : isNoneV a = some c) : Cmp .IsNot a .none σ (!c) := fun Φ P x y _ ok ra rb => .same fun Q E k => rb.eN (wpAny_isNot_plain (isNone_at h ra).1 ((isNone_at h ra).2 ▸ k _ fun _ _ => .bool _))
theorem i_bool {c d : Bool} : Cmp .Is (.bool c) (.bool d) σ (c == d) := fun Φ P x y _ ok ra rb => .same fun Q E k => ra.eB (rb.eB (wpAny_is_plain rfl ((show ((.bool c : Value) == .bool d) = (c == d) by cases c <;> cases d <;> rfl) ▸ k _ fun _ _ => .bool _)))
theorem c_lt : Cmp .Lt (.int i) (.int j) σ (decide (i < j)) := op_int fun Φ P u w => .same fun Q E k => wpAny_lt_int (k _ fun _ _ => .bool _)
theorem c_ge : Cmp .GtE (.int i) (.int j) σ (decide (j ≤ i)) := op_int fun Φ P u w => .same fun Q E k => PyProof.Rows.ge_int (k _ fun _ _ => .bool _)
theorem c_gt : Cmp .Gt (.int i) (.int j) σ (decide (j < i)) := op_int fun Φ P u w => .same fun Q E k => PyProof.Rows.gt_int (k _ fun _ _ => .bool _)
theorem n_str : Cmp .In (.str s) (.str t) σ (Txt.contains t s) := op_str fun Φ P u w => .same fun Q E k => SB.contains (k _ fun _ _ => .bool _)
theorem n_strN : Cmp .NotIn (.str s) (.str t) σ (!Txt.contains t s) := op_str fun Φ P u w => .same fun Q E k => SB.notContains (k _ fun _ _ => .bool _)
theorem n_set {l : Addr} {es : List Int} (h : σ.H l = some (.set es)) : Cmp .In (.int i) (.con (.ref l)) σ (es.contains i) := fun Φ P x y _ ok ra rb => ra.eI fun u => rb.eC (by
  obtain ⟨o, e, d, ep, t, h1, h2, h3, h4, h5, h6, h7⟩ := ok.obj h
  exact fun Q E k => wpAny_inSet_of (intKind_is _ _ i _) rfl (show P.s.heap.SetOf (intKind Φ.C.prog Φ.C.w) l (fun k => es.contains k) es.length from ⟨o, d, ep, t, e, h1, h2, h3, h4, h5, h6, h7⟩) (k _ _ _ (fun _ _ e => e) (.bool _)))
theorem dict_any {α : Type} [DecidableEq α] {es : List (α × AV)} {kvs : List (α × Value)} (h : es.map (·.1) = kvs.map (·.1)) (k : α) : (kvs.any fun kv => decide (kv.1 = k)) = es.any (·.1 == k) := by
  rw [show (kvs.any fun kv => decide (kv.1 = k)) = (kvs.map (·.1)).any fun x => decide (x = k) from by rw [List.any_map]; rfl, ← h, List.any_map]
  exact congrArg (es.any ·) (funext fun p => dec_beq _ _)
theorem DictObj.at {prog : Program} {w : World} {K : Type} [DecidableEq K] {knd : PySem.KeyKind prog w K} {o : Obj} {kvs : List (K × Value)} {ep : Nat} {h : Heap} {a : Addr} (q : DictObj knd o kvs ep) (e : h.get? a = some o) : h.DictAt knd a kvs ep :=
  let ⟨es, r⟩ := q; ⟨o, es, e, r⟩
theorem DictObj.of {prog : Program} {w : World} {K : Type} [DecidableEq K] {knd : PySem.KeyKind prog w K} {kvs : List (K × Value)} {h : Heap} {a : Addr} {ep : Nat} (q : h.DictAt knd a kvs ep) : ∃ o, h.get? a = some o ∧ DictObj knd o kvs ep :=
  let ⟨o, es, e, r⟩ := q; ⟨o, e, es, r⟩
theorem Ok.noSys (ok : Ok Φ σ P) {l : Addr} {ob : AObj} (h : σ.H l = some ob) : (l == sysModules) = false := beq_eq_false_iff_ne.mpr (ok.m.objs _ _ (map_H ok h)).2.1
theorem n_dict {l : Addr} {es : List (Int × AV)} {ep : Nat} (h : σ.H l = some (.dictI es ep)) : Cmp .In (.int i) (.con (.ref l)) σ (es.any (·.1 == i)) := fun Φ P x y _ ok ra rb => ra.eI fun u => rb.eC (let ⟨o, e, kvs, hd, hk, hv⟩ := ok.obj h
  fun Q E k => wpAny_in_of (intKind_is _ _ i _) (ok.noSys h) (hd.at e).dictOf.mapOf (show Q (.bool (PySem.valueAt kvs i).isSome) _ from by
    have : (PySem.valueAt kvs i).isSome = es.any (·.1 == i) := by rw [← dict_any hk]; unfold PySem.valueAt; rw [Option.isSome_map, List.isSome_find?]
    rw [this]; exact k _ _ _ (fun _ _ e => e) (.bool _)))
theorem tr_none : Tru .none σ false := fun Φ P x ok r => .same fun Q E k => r.eN (truthy_none (k _ fun _ _ => rfl))
theorem tr_bool {c : Bool} : Tru (.bool c) σ c := fun Φ P x ok r => .same fun Q E k => r.eB (wpAny_truthy_bool (k _ fun _ _ => rfl))
theorem ne0 (n : Nat) : (((n : Nat) : Int) != 0) = !(n == 0) := by cases n <;> rfl
theorem tr_str (h : s.length ≤ lim) : Tru (.str s) σ (!(s.length == 0)) := fun Φ P x ok r Q E k => r.eS fun t => PySem.P.truthy_str (Int.not_le.mpr (lim_63 h)) (k _ _ _ (fun _ _ e => e) (ne0 _))
theorem emp_eq {its : Array Value} (q : VRs P vs its.toList) : (!its.isEmpty) = !vs.isEmpty := by
  rw [Array.isEmpty, q.size]; cases vs <;> rfl
theorem tr_list (h1 : LI σ v vs) (h : vs.length ≤ lim) : Tru v σ (!vs.isEmpty) := fun Φ P x ok r Q E k => h1.e ok r fun l its hl q => wpAny_truthy_list hl (by rw [q.size]; exact lim_63 h) (k _ _ _ (fun _ _ e => e) (emp_eq q))
theorem tr_tup (h : vs.length ≤ lim) : Tru (.tup vs) σ (!vs.isEmpty) := fun Φ P x ok r Q E k => r.eT fun l its ⟨o, e1, e2, n, e3⟩ _ q => truthy_tuple ⟨o, e1, e2, n, e3⟩ (by rw [q.size]; exact lim_63 h) (k _ _ _ (fun _ _ e => e) (emp_eq q))
theorem noBool_match : typeLookup (.type "re.Match") "__bool__" = pure none := by rw [typeLookup_type, builtinLookup_eq_fast]; kernel_rfl
theorem noLen_match : typeLookup (.type "re.Match") "__len__" = pure none := by rw [typeLookup_type, builtinLookup_eq_fast]; kernel_rfl
theorem truthy_plain {M : Model} {A : Around} {E : Value → Shared → Prop} {s : Shared} {a : Addr} {Q : Bool → Shared → Prop} (hT : s.TypeIs (.ref a) "re.Match") (h : Q true s) : wpAny M A (truthy (.ref a)) Q E s := by
  unfold truthy
  first
    | refine wpAny_bind (wpAny_callSpecial?_none (name := Str.ofString "__bool__") hT noBool_match ?_)
    | refine wpAny_bind (wpAny_pure (wpAny_bind (wpAny_callSpecial?_none (name := Str.ofString "__bool__") hT noBool_match ?_)))
  first
    | refine wpAny_bind (wpAny_specialOf (name := Str.ofString "__len__") hT noLen_match ?_)
    | refine wpAny_bind (wpAny_pure (wpAny_bind (wpAny_specialOf (name := Str.ofString "__len__") hT noLen_match ?_)))
  exact wpAny_pure h
theorem tr_mat {sp : List (Nat × Nat)} : Tru (.mat s sp) σ true := fun Φ P x ok r => .same fun Q E k => r.eM fun _ _ _ _ _ _ _ e _ _ _ => truthy_plain ⟨_, e, rfl⟩ (k _ fun _ _ => rfl)
end
end Mine
end
section
namespace Mine
open PySem PySem.W PyProof.Rows PySem.Calls PySem.SeqAt
theorem sub_any {M : Model} {A : Around} {E : Value → Shared → Prop} {s : Shared} {prog : Program} {w : World} {env : Env} {value slice : Expr} {pos : Pos} {Q : Value → Shared → Prop}
    (h : wpAny (model prog w) A (eval value env) (fun o s₁ => wpAny (model prog w) A (eval slice env) (fun i s₂ => SubscriptOn (model prog w) A o i Q E s₂) E s₁) E s) :
    wpAny (model prog w) A (eval (.Subscript value slice pos) env) Q E s := by
  rw [eval_Subscript]
  refine wpAny_bind (wpAny_mono h (fun o s₁ h₁ => wpAny_bind (wpAny_holding (wpAny_mono h₁ (fun i s₂ h₂ => wpAny_bind (wpAny_standAt ?_)) fun _ _ x => x))) fun _ _ x => x)
  obtain ⟨T, id, hl, hT, hg⟩ := h₂
  refine wpAny_bind ?_
  rw [getitemInPython_of_ne hT.not_modules]
  refine wpAny_bind (wpAny_specialOf hT hl ?_)
  have fin : ∀ vs, wpAny (model prog w) A (operate vs (getItem o i)) (fun r s₃ => wpAny (model prog w) A (letTemporaryGo value o r >>= fun _ => pure r) Q E s₃) E s₂ := fun vs =>
    wpAny_operating (wpAny_mono hg (fun r s₃ h₃ => wpAny_bind (wpAny_letTemporaryGo (wpAny_pure h₃))) fun _ _ x => x)
  have fin' : wpAny (model prog w) A (subscripted slice false o i) (fun r s₃ => wpAny (model prog w) A (letTemporaryGo value o r >>= fun _ => pure r) Q E s₃) E s₂ := by
    have ht : subscripted slice false o i = operate [i, o] (getItem o i) ∨ subscripted slice false o i = operate [o, i] (getItem o i) := by
      cases slice with
      | Slice a b c d => cases c <;> first | exact .inl rfl | exact .inr rfl
      | _ => exact .inr rfl
    rcases ht with ht | ht <;> (rw [ht]; exact fin _)
  first
    | exact wpAny_pure (wpAny_bind fin')
    | exact wpAny_bind (wpAny_pure (wpAny_bind fin'))
    | exact wpAny_bind fin'
noncomputable def seqIdx (i : Int) (n : Nat) : Option Nat :=
  if i < lim ∧ -lim < i then (if 0 ≤ i then (if i.toNat < n then some i.toNat else none) else if 0 ≤ i + n then some (i + n).toNat else none) else none
theorem ifs {α : Type} {c : Prop} [Decidable c] {x : Option α} {a : α} (h : (if c then x else none) = some a) : c ∧ x = some a := by
  by_cases hc : c
  · exact ⟨hc, (if_pos hc).symm.trans h⟩
  · exact nos ((if_neg hc).symm.trans h)
theorem seqIdx_cases {k : Int} {n j : Nat} (h : seqIdx k n = some j) : (k < 1000000 ∧ -1000000 < k) ∧ ((0 ≤ k ∧ k.toNat < n ∧ j = k.toNat) ∨ (k < 0 ∧ 0 ≤ k + n ∧ j = (k + n).toNat)) := by
  obtain ⟨hb, h⟩ := ifs h
  refine ⟨hb, ?_⟩
  by_cases h0 : 0 ≤ k
  · obtain ⟨h1, h⟩ := ifs ((if_pos h0).symm.trans h); exact .inl ⟨h0, h1, (smj h).symm⟩
  · obtain ⟨h1, h⟩ := ifs ((if_neg h0).symm.trans h); exact .inr ⟨Int.not_le.mp h0, h1, (smj h).symm⟩
theorem seqIdx_ok {k : Int} {n j : Nat} (h : seqIdx k n = some j) : seqIndex? k n = some j ∧ -(2 ^ 63) ≤ k ∧ k < 2 ^ 63 := by
  obtain ⟨hb, h3⟩ := seqIdx_cases h
  refine ⟨?_, by lia, by lia⟩
  unfold seqIndex?
  rcases h3 with ⟨a, b, c⟩ | ⟨a, b, c⟩
  · simp only [Int.not_lt.mpr a, if_false]
    rw [if_pos (by rw [Bool.and_eq_true, decide_eq_true_iff, decide_eq_true_iff]; lia), c]
  · simp only [a, if_true]
    rw [if_pos (by rw [Bool.and_eq_true, decide_eq_true_iff, decide_eq_true_iff]; lia), c]
noncomputable def Su (o i : AV) (σ : St) (v : AV) : Prop := ∀ Φ P x y, Ok Φ σ P → VR P o x → VR P i y →
  ∃ T id, typeLookup (.type T) "__getitem__" = pure (some (.builtin id)) ∧ P.s.TypeIs x T ∧ Lf Φ P (getItem x y) fun P' z => VR P' v z
section
variable {Φ : Fm} {fs : FS} {σ : St} {P : Pt} {a b v w : AV} {x y : Value} {vs ws : List AV} {c : Bool} {i j : Int} {s t z : Str} {k n u : Nat} {l : Addr} {e o r r' : Expr} {p q : Pos} {Q : AV → St → Prop} {Qs : St → Prop}
theorem w_sub (h : We fs o σ fun a s => We fs e s fun b s => ∃ v, Su a b s v ∧ Q v s) : We fs (.Subscript o e p) σ Q := fun Φ P K E F ok k =>
  sub_any (M := Φ.M) (h Φ P _ E F ok fun P1 x a σ1 l1 ok1 r1 h1 => h1 Φ P1 _ E F ok1 fun P2 y b σ2 l2 ok2 r2 ⟨v, hv, q⟩ =>
    let ⟨T, nm, t1, t2, t3⟩ := hv Φ P2 x y ok2 (r1.le l2) r2
    ⟨T, nm, t1, t2, t3.run ok2 fun P3 z l3 ok3 r3 => k P3 z v σ2 (l1.trans (l2.trans l3)) ok3 r3 q⟩)
theorem get_at {its : Array Value} (q : VRs P vs its.toList) (h : seqIdx i vs.length = some k) (e : vs[k]? = some v) : seqIndex? i its.size = some k ∧ ∃ z, its[k]? = some z ∧ VR P v z :=
  let ⟨z, hz, r⟩ := q.get e; ⟨q.size ▸ (seqIdx_ok h).1, z, by rw [← Array.getElem?_toList]; exact hz, r⟩
theorem u_list (h1 : LI σ a vs) (h : seqIdx i vs.length = some k) (e : vs[k]? = some v) : Su a (.int i) σ v := fun Φ P x y ok ra rb => rb.eI fun t => h1.e ok ra fun l its hl q => by
  obtain ⟨h1, z, hz, r⟩ := get_at q h e
  obtain ⟨_, hlo, hhi⟩ := seqIdx_ok h
  refine ⟨"list", _, PySem.slot_list_getitem.lookup, hl.typeIs, .same fun Q E kk => ?_⟩
  rcases (seqIdx_cases h).2 with ⟨h0, _, c⟩ | ⟨h0, h2, c⟩
  · exact wpAny_getItem_list hl h0 hhi (c ▸ hz) (kk z fun _ l => r.le l)
  · rw [c, ← q.size] at hz
    exact wpAny_getItem_list_neg hl h0 (by rw [q.size]; lia) hlo hz (kk z fun _ l => r.le l)
theorem u_tup (h : seqIdx i vs.length = some k) (e : vs[k]? = some v) : Su (.tup vs) (.int i) σ v := fun Φ P x y ok ra rb => rb.eI fun t => ra.eT fun l its hl im q => by
  obtain ⟨h1, z, hz, r⟩ := get_at q h e
  obtain ⟨_, hlo, hhi⟩ := seqIdx_ok h
  obtain ⟨ob, e1, e2, n, e3⟩ := hl
  exact ⟨"tuple", _, PySem.F.slot_tuple_getitem.lookup, ⟨ob, e1, e2⟩, .same fun Q E kk => PyProof.Rows.getItem_tuple ⟨ob, e1, e2, n, e3⟩ hlo hhi h1 hz (kk z fun _ l => r.le l)⟩
theorem u_str {c : Nat} (h : seqIdx i s.length = some k) (e : s.cps[k]? = some c) : Su (.str s) (.int i) σ (.str ⟨#[c]⟩) := fun Φ P x y ok ra rb => rb.eI fun t => ra.eS fun t' => by
  obtain ⟨h1, hlo, hhi⟩ := seqIdx_ok h
  have hch : Txt.charAt s i = some c := by unfold Txt.charAt; rw [h1]; exact e
  refine ⟨"str", _, F.slot_str_getitem.lookup, typeIs_str _ _ _, fun Q E kk => SB.getItem (by unfold fitsSsize; simp; lia) (by rw [hch]; rfl) (kk _ _ _ (fun _ _ e => e) ?_)⟩
  rw [show Txt.item s i = ⟨#[c]⟩ by unfold Txt.item; rw [hch]; rfl]; exact .str _ _
theorem lookup_valueAt {α : Type} [DecidableEq α] {es : List (α × AV)} {kvs : List (α × Value)} (h : KVR P es kvs) (k : α) :
    (es.lookup k = none ∧ PySem.valueAt kvs k = none) ∨ ∃ v y, es.lookup k = some v ∧ PySem.valueAt kvs k = some y ∧ VR P v y := by
  induction es generalizing kvs with
  | nil =>
    cases kvs with
    | nil => exact .inl ⟨rfl, rfl⟩
    | cons _ _ => exact nomatch h.1
  | cons p es ih =>
    cases kvs with
    | nil => exact nomatch h.1
    | cons q kvs =>
      have e := List.cons.inj h.1
      have r := VRs.uncons (show VRs P (p.2 :: es.map (·.2)) (q.2 :: kvs.map (·.2)) from h.2)
      have ih := ih ⟨e.2, r.2⟩
      unfold PySem.valueAt at ih ⊢
      rw [List.lookup_cons, List.find?_cons]
      by_cases hk : k = p.1
      · rw [beq_iff_eq.mpr hk, decide_eq_true (e.1.symm.trans hk.symm)]
        exact .inr ⟨_, _, rfl, rfl, r.1⟩
      · rw [beq_eq_false_iff_ne.mpr hk, decide_eq_false fun z => hk (z.symm.trans e.1.symm)]
        exact ih
theorem sub_dict {K : Type} [DecidableEq K] {Φ : Fm} {knd : KeyKind Φ.C.prog Φ.C.w K} {ob : Obj} {es : List (K × AV)} {kvs : List (K × Value)} {ep : Nat} {key : K} (e : P.s.heap.get? l = some ob) (hd : DictObj knd ob kvs ep) (hk : KVR P es kvs) (hv : es.lookup key = some v) (hy : knd.is key y = true) :
    ∃ T id, typeLookup (.type T) "__getitem__" = pure (some (.builtin id)) ∧ P.s.TypeIs (.ref l) T ∧ Lf Φ P (getItem (.ref l) y) fun P' z => VR P' v z := by
  have hm := (hd.at e).dictOf.mapOf
  rcases lookup_valueAt hk key with ⟨a, _⟩ | ⟨v', z, a, b, r⟩
  · exact nos (a.symm.trans hv)
  · rw [smj (a.symm.trans hv)] at r
    exact ⟨"dict", _, F.slot_dict_getitem.lookup, hm.typeIs, fun Q E kk => wpAny_getItem_of hy hm b (kk _ _ _ (fun _ _ e => e) (r.le (up_le fun _ _ e => e)))⟩
theorem u_dict {es : List (Int × AV)} {ep : Nat} (ho : σ.H l = some (.dictI es ep)) (e : es.lookup i = some v) : Su (.con (.ref l)) (.int i) σ v := fun Φ P x y ok ra rb => rb.eI fun t => ra.eC (let ⟨o, e1, kvs, hd, hk⟩ := ok.obj ho; sub_dict e1 hd hk e (intKind_is _ _ i _))
theorem VRs.pick {its : Array Value} (r : VRs P vs its.toList) (l : List Nat) : VRs P (l.filterMap (vs[·]?)) (l.filterMap (its[·]?)) := VRs.fm (fun i => by rw [← Array.getElem?_toList]; exact r.either i) l
noncomputable def aslice (xs : List AV) (lo hi : Option Int) : List AV :=
  (sliceRange (sliceBounds lo hi none xs.length).1 (sliceBounds lo hi none xs.length).2.1 (sliceBounds lo hi none xs.length).2.2).filterMap (xs[·]?)
noncomputable def Wp (fs : FS) (e : Option Expr) (σ : St) (Q : Option Int → St → Prop) : Prop :=
  ∀ Φ P K E, FrOk Φ fs → Ok Φ σ P → (∀ P' y m σ', Le P P' → Ok Φ σ' P' → IsPart y m → Q m σ' → K y P'.s) → wpAny Φ.M Φ.A (evalPart e Φ.env) K E P.s
theorem w_opt0 {Q : Option Int → St → Prop} (q : Q none σ) : Wp fs none σ Q := fun Φ P K E F ok k => wpAny_pure (k P _ none σ Le.refl ok .none q)
theorem w_opt1 {Q : Option Int → St → Prop} (h : We fs e σ fun v s => ∃ i, v = .int i ∧ Q (some i) s) : Wp fs (some e) σ Q := fun Φ P K E F ok k =>
  h Φ P K E F ok fun P1 x a σ1 l1 ok1 r1 ⟨i, e, q⟩ => (show VR P1 (.int i) x from e ▸ r1).eI (m := fun x => K x P1.s) fun t => k P1 _ (some i) σ1 l1 ok1 (.int _ _) q
noncomputable def slObj (vl vu : Value) : Obj := { cls := .type "slice", data := .fields #[vl, vu, .none] }
noncomputable def Sl (o : AV) (lo hi : Option Int) (σ : St) (v : AV) : Prop := ∀ Φ P x vl vu, Ok Φ σ P → VR P o x → IsPart vl lo → IsPart vu hi →
  ∃ T id, typeLookup (.type T) "__getitem__" = pure (some (.builtin id)) ∧ P.s.TypeIs x T ∧ Lf Φ (P.gr (P.s.heap.push (slObj vl vu)) P.s.toks) (getItem x (.ref P.s.heap.objs.size)) fun P' z => VR P' v z
theorem w_slice {lo hi : Option Expr} (h : We fs o σ fun ov s => Wp fs lo s fun m s => Wp fs hi s fun m' s => ∃ v, Sl ov m m' s v ∧ Q v s) : We fs (.Subscript o (.Slice lo hi none q) p) σ Q := fun Φ P K E F ok k => by
  refine sub_any (M := Φ.M) (h Φ P _ E F ok fun P1 x a σ1 l1 ok1 r1 h1 => wpAny_Slice (h1 Φ P1 _ E F ok1 fun P2 vl m σ2 l2 ok2 pl h2 => h2 Φ P2 _ E F ok2 fun P3 vu m' σ3 l3 ok3 pu ⟨v, hv, q⟩ => ?_))
  rw [evalPart_none]
  obtain ⟨T, nm, t1, t2, t3⟩ := hv Φ P3 x vl vu ok3 ((r1.le l2).le l3) pl pu
  have kp := keep_push P3.s.heap (slObj vl vu)
  have up := ok3.up (tk := P3.s.toks) kp
  refine wpAny_pure ⟨T, nm, t1, ?_, t3.run up.1 fun P4 z l4 ok4 r4 => k P4 z v σ3 (l1.trans (l2.trans (l3.trans (up.2.trans l4)))) ok4 r4 q⟩
  cases x with
  | ref a => exact let ⟨o, e1, e2⟩ := t2; ⟨o, kp _ _ e1, e2⟩
  | _ => exact t2
theorem sl_list (h1 : LI σ a vs) (h : vs.length ≤ lim) {lo hi : Option Int} : Sl a lo hi σ (.lst (aslice vs lo hi)) := fun Φ P x vl vu ok ra pl pu => h1.e ok ra fun l its hl r => by
  have hk := keep_push P.s.heap (slObj vl vu)
  refine ⟨"list", _, PySem.slot_list_getitem.lookup, hl.typeIs, fun Q E q => ?_⟩
  refine wpAny_getItem_list_slice (lo := lo) (hi := hi) (st := none) (hl.at fun o e => hk _ _ e) (Heap.IsSliceOf.new ..) pl pu .none nofun ?_ (by rw [r.size]; exact lim_size h)
  have hk2 : ∀ ob : Obj, ∀ b o, (P.s.heap.push (slObj vl vu)).get? b = some o → ((P.s.heap.push (slObj vl vu)).push ob).get? b = some o := fun ob => keep_push _ ob
  refine q _ _ _ (hk2 _) (.lst ⟨_, Heap.get?_push_size _ rfl, rfl, _, rfl⟩ (im_push (P := P.gr (P.s.heap.push (slObj vl vu)) P.s.toks) rfl) ?_)
  unfold aslice slicePick
  rw [r.size]
  exact ((r.le (up_le (tk := P.s.toks) (N := fun _ => False) hk)).le (up_le (hk2 _))).pick _
theorem sl_str (h : s.length ≤ lim) {lo hi : Option Int} : Sl (.str s) lo hi σ (.str (Txt.slice s lo hi)) := fun Φ P x vl vu ok ra pl pu => ra.eS fun t => by
  refine ⟨"str", _, F.slot_str_getitem.lookup, typeIs_str _ _ _, fun Q E q => ?_⟩
  have fin : ∀ t' k, Q (.str (Txt.slice s lo hi) t') { P.s with heap := P.s.heap.push (slObj vl vu), toks := k } := fun t' k => q _ k _ (fun _ _ e => e) (.str _ _)
  have so : (P.s.heap.push (slObj vl vu)).get? P.s.heap.objs.size = some (slObj vl vu) := Heap.get?_push_size _ rfl
  have hz := Nat.le_trans (Txt.slice_le s lo hi) (lim_size h)
  cases pl <;> cases pu
  · exact wpAny_getItem_str_slice (l := none) (u := none) (st := none) ⟨_, so, rfl, rfl⟩ rfl (post_val_or_str ⟨hz, fin⟩)
  · exact wpAny_getItem_str_slice (l := none) (u := some (_, _)) (st := none) ⟨_, so, rfl, rfl⟩ rfl (post_val_or_str ⟨hz, fin⟩)
  · exact wpAny_getItem_str_slice (l := some (_, _)) (u := none) (st := none) ⟨_, so, rfl, rfl⟩ rfl (post_val_or_str ⟨hz, fin⟩)
  · exact wpAny_getItem_str_slice (l := some (_, _)) (u := some (_, _)) (st := none) ⟨_, so, rfl, rfl⟩ rfl (post_val_or_str ⟨hz, fin⟩)
noncomputable def Si (o i v : AV) (σ : St) (Q : St → Prop) : Prop := ∀ Φ P x y z K E, Ok Φ σ P → VR P o x → VR P i y → VR P v z → (∀ P' σ', Le P P' → Ok Φ σ' P' → Q σ' → K () P'.s) → wpAny Φ.M Φ.A (setItem x y z) K E P.s
theorem KVR.put {K : Type} [DecidableEq K] {key : K} (r : VR P v y) : ∀ {es : List (K × AV)} {kvs : List (K × Value)}, KVR P es kvs → KVR P (gPut key v es) (gPut key y kvs)
  | [], [], _ => ⟨rfl, .cons r .nil⟩
  | [], _ :: _, h => nomatch h.1
  | _ :: _, [], h => nomatch h.1
  | p :: es, p' :: kvs, h => by
    have e := List.cons.inj h.1
    have q := VRs.uncons (show VRs P (p.2 :: es.map (·.2)) (p'.2 :: kvs.map (·.2)) from h.2)
    unfold gPut
    by_cases hk : p.1 = key
    · rw [if_pos hk, if_pos (e.1.symm.trans hk)]
      exact ⟨congrArg (key :: ·) e.2, .cons r q.2⟩
    · rw [if_neg hk, if_neg fun z => hk (e.1.trans z)]
      have ih := KVR.put (key := key) r (es := es) (kvs := kvs) ⟨e.2, q.2⟩
      exact ⟨(congrArg (· :: _) e.1).trans (congrArg (p'.1 :: ·) ih.1), .cons q.1 ih.2⟩
theorem map_same {K : Type} [DecidableEq K] {key : K} {v : Value} : ∀ {r : List (K × Value)}, key ∉ r.map (·.1) → r.map (fun kv => if kv.1 = key then (kv.1, v) else kv) = r
  | [], _ => rfl
  | p :: r, h => by rw [List.map_cons, map_same fun q => h (List.mem_cons_of_mem _ q), if_neg fun (q : p.1 = key) => h (q ▸ List.mem_cons_self)]
theorem stored_eq {K : Type} [DecidableEq K] {key : K} {v : Value} : ∀ {kvs : List (K × Value)}, (kvs.map (·.1)).Nodup → PySem.stored kvs key v = gPut key v kvs
  | [], _ => rfl
  | p :: r, nd => by
    have nd := List.nodup_cons.mp nd
    unfold gPut
    by_cases e : p.1 = key
    · rw [if_pos e]
      unfold PySem.stored
      rw [if_pos (by rw [List.any_cons, decide_eq_true e]; rfl), List.map_cons, if_pos e, map_same (e ▸ nd.1), e]
    · rw [if_neg e, ← stored_eq nd.2]
      unfold PySem.stored
      by_cases h : (r.any fun kv => decide (kv.1 = key)) = true
      · rw [if_pos (by rw [List.any_cons, h, Bool.or_true]), if_pos h, List.map_cons, if_neg e]
      · rw [if_neg (by rw [List.any_cons, decide_eq_false e, Bool.false_or]; exact h), if_neg h]; rfl
theorem setItem_ep {K : Type} [DecidableEq K] {prog : Program} {w : World} {knd : KeyKind prog w K} {A : Around} {E : Value → Shared → Prop} {s : Shared} {d : Addr} {key v : Value} {k : K} {kvs : List (K × Value)} {ep : Nat} {Q : Unit → Shared → Prop}
    (hkey : knd.is k key = true) (hm : s.heap.DictAt knd d kvs ep) (hsz : kvs.length ≤ sizeLine)
    (hQ : ∀ h', h'.DictAt knd d (stored kvs k v) (if kvs.any (fun kv => decide (kv.1 = k)) then ep else ep + 1) → Heap.SameBut d s.heap h' → Q () { s with heap := h', toks := s.toks + 1 }) :
    wpAny (model prog w) A (setItem (.ref d) key v) Q E s := by
  obtain ⟨o, es, ho, hc, hd, hk, hp, hn⟩ := id hm
  have hz : es.size = kvs.length := hp.length ▸ (Array.length_toList ..).symm
  have hT := hm.dictOf.typeIs
  unfold setItem
  refine wpAny_holding ?_
  refine wpAny_bind (wpAny_sequenceKey hT (by decide) ?_)
  refine wpAny_bind (wpAny_callSpecial?_slot (name := Str.ofString "__setitem__") hT slot_dict_setitem (wpAny_call_entry slot_dict_setitem hT entry_dict_setitem ?_ (args_dict_setitem _ _ _)))
  refine wpAny_bind (m := Builtin.Dict.notOrdered "__setitem__" ⟨[.ref d, key, v], []⟩) (wpAny_notOrdered_dict hT ?_)
  refine wpAny_bind (m := dictSet d key v) ?_
  have fin : ∀ h' ep', h'.DictAt knd d (stored kvs k v) ep' → Heap.SameBut d s.heap h' → ep' = (if kvs.any (fun kv => decide (kv.1 = k)) then ep else ep + 1) → Q () { s with heap := h', toks := s.toks + 1 } := fun h' ep' a b e => hQ h' (e ▸ a) b
  unfold dictSet
  refine wpAny_holding (wpAny_bind (knd.pyHash hkey ?_))
  unfold dictSetHashed
  refine wpAny_holding (wpAny_bind (wpAny_dictFind_of (s := { s with toks := s.toks + 1 }) hkey ho hd hk ?_))
  have hi : (es.findIdx? fun e => knd.is k e.key) = kvs.findIdx? fun kv => decide (kv.1 = k) := by
    rw [← hp.findIdx k, ← List.findIdx?_toArray]
  cases h : es.findIdx? fun e => knd.is k e.key with
  | none =>
    have hnk : k ∉ kvs.map (·.1) := not_mem_of_findIdx_none (hi ▸ h)
    have ha : (kvs.any fun kv => decide (kv.1 = k)) = false := Bool.eq_false_iff.mpr fun hc => let ⟨kv, hkv, he⟩ := List.any_eq_true.mp hc; hnk (of_decide_eq_true he ▸ List.mem_map_of_mem hkv)
    have hst : stored kvs k v = kvs ++ [(k, v)] := by rw [stored, ha]; rfl
    refine wpAny_bind (wpAny_rule (wpAny_updateDictKeys (hz := by rw [hz]; exact hsz) (s := { s with toks := s.toks + 1 }) ho hd (wpAny_pure ⟨.none, rfl, wpAny_pure (fin _ (ep + 1) ⟨_, _, Heap.get?_update_self _ ho (Obj.isFreed_of_dict (Obj.data_mapDictKeys hd _)),
      hc.mapDictKeys _, Obj.data_mapDictKeys hd _, hk.push hkey _, ?_, ?_⟩ (Heap.SameBut.update ..) (by rw [ha]; rfl))⟩)))
    · rw [hst, Array.toList_push]
      exact hp.append hkey (knd.hash k) v
    · rw [hst, List.map_append]
      exact List.nodup_append.mpr ⟨hn, by simp, fun a ha' b hb e => hnk (by have hb' : b = k := List.mem_singleton.mp hb; rw [← hb', ← e]; exact ha')⟩
  | some i =>
    have ha : (kvs.any fun kv => decide (kv.1 = k)) = true := any_of_findIdx_some (hi ▸ h)
    have hst : stored kvs k v = kvs.map (fun kv => if kv.1 = k then (kv.1, v) else kv) := by rw [stored, ha]; rfl
    refine wpAny_bind (wpAny_rule (wpAny_bind (wpAny_updateDict (s := { s with toks := s.toks + 1 }) ho hd (wpAny_point (wpAny_pure ⟨.none, rfl, wpAny_pure (fin _ ep ⟨_, _, Heap.get?_update_self _ ho (Obj.isFreed_of_dict (Obj.data_mapDict hd _)),
      hc.mapDict _, Obj.data_mapDict hd _, hk.modify _ _, ?_, ?_⟩ (Heap.SameBut.update ..) (by rw [ha]; rfl))⟩)))))
    · have := hp.modify hn (i := i) (by rw [← h, ← List.findIdx?_toArray]) v
      rw [hst]
      simpa using this
    · rw [hst, keys_map_store kvs k v]; exact hn
theorem len_keys {K : Type} {es : List (K × AV)} {kvs : List (K × Value)} (h : es.map (·.1) = kvs.map (·.1)) : kvs.length = es.length := by rw [← List.length_map (·.1), ← h, List.length_map]
theorem DictObj.nd {prog : Program} {w : World} {K : Type} [DecidableEq K] {knd : PySem.KeyKind prog w K} {o : Obj} {kvs : List (K × Value)} {ep : Nat} (q : DictObj knd o kvs ep) : (kvs.map (·.1)).Nodup := let ⟨_, _, _, _, _, n⟩ := q; n
theorem p_dict {es : List (Int × AV)} {ep : Nat} (ho : σ.H l = some (.dictI es ep)) (h : es.length < lim) (q : Qs (σ.set l (.dictI (gPut i v es) (if es.any (·.1 == i) then ep else ep + 1)))) : Si (.con (.ref l)) (.int i) v σ Qs := fun Φ P x y z K E ok ra rb rv k => ra.eC (rb.eI fun t => by
  obtain ⟨o, e1, kvs, hd, hk⟩ := ok.obj ho
  refine setItem_ep (intKind_is _ _ i _) (hd.at e1) (by rw [len_keys hk.1]; exact lim_size (Nat.le_of_lt h)) fun h' hd' hs => ?_
  rw [dict_any hk.1] at hd'
  obtain ⟨o', g', d'⟩ := DictObj.of hd'
  obtain ⟨ok', l'⟩ := ok.set (tk := P.s.toks + 1) ho hs g' (ob' := .dictI (gPut i v es) (if es.any (·.1 == i) then ep else ep + 1)) ⟨_, d', by rw [stored_eq hd.nd]; exact hk.put rv⟩
  exact k _ _ l' ok' q)
noncomputable def Ws (fs : FS) (x : Str) (v : AV) (σ : St) (Q : St → Prop) : Prop := ∀ Φ P y K E, FrOk Φ fs → Ok Φ σ P → VR P v y → (∀ P' σ', Le P P' → Ok Φ σ' P' → Q σ' → K () P'.s) → wpAny Φ.M Φ.A (bindName Φ.env x y) K E P.s
noncomputable def isL (fs : FS) (x : Str) (kd : NameKind) : Bool := fs.scope.names.lookup x == some kd
theorem isL_at {kd : NameKind} (h : isL fs z kd = true) {Φ : Fm} (F : FrOk Φ fs) : Φ.env.kindOf z = some kd := by unfold Env.kindOf; rw [F.scope]; exact eq_of_beq h
theorem s_local (h : isL fs z .local = true) (q : Qs (σ.put z v)) : Ws fs z v σ Qs := fun Φ P y K E F ok r k => by
  obtain ⟨m, hn, hq⟩ := ns_at ok
  exact wpAny_bindName (wpAny_storeName_local (hp := by rw [F.kn]; rfl) (isL_at h F) hn fun h' hn' hs => let ⟨a, b⟩ := ok.put hs hq hn' r; k _ _ b a q)
theorem s_cell {c : Option AV} (h : isL fs z .cell = true) (hc : fs.cells.lookup z = some l) (hv : σ.H l = some (.cell c)) (q : Qs (σ.set l (.cell (some v)))) : Ws fs z v σ Qs := fun Φ P y K E F ok r k => by
  obtain ⟨o, e, x, d, _⟩ := ok.obj hv
  refine wpAny_bindName (wpAny_storeName_cell F.kn (isL_at h F) (F.cells z l hc) ⟨o, e, d⟩ fun h' hc' hs => ?_)
  obtain ⟨o', e', d'⟩ := hc'
  obtain ⟨a, b⟩ := ok.set (tk := P.s.toks) hv hs e' (ob' := .cell (some v)) ⟨_, d', fun w hw => ⟨y, rfl, smj hw ▸ r⟩⟩
  exact k _ _ b a q
theorem w_named (h : We fs e σ fun v s => Ws fs z v s fun s => Q v s) : We fs (.NamedExpr (.Name z q) e p) σ Q := fun Φ P K E F ok k =>
  wpAny_NamedExpr (h Φ P _ E F ok fun P1 x a σ1 l1 ok1 r1 h1 => wpAny_bind (wpAny_standAt (h1 Φ P1 x _ E F ok1 r1 fun P2 σ2 l2 ok2 q => k P2 x a σ2 (l1.trans l2) ok2 (r1.le l2) q)))
end
end Mine
end
section
namespace Mine
open PySem PySem.W PyProof.Rows PySem.Calls PySem.SeqAt Builtin Builtin.ObjectAttr Builtin.Getset_descriptor
theorem lookIn_of {o : Obj} {m : Str → Option Value} (q : Ns1Obj o m) (name : Str) : lookIn name o = some (m name) := by
  obtain ⟨es, ep, hd, hk, _, hf⟩ := q
  unfold lookIn
  rw [hd]
  dsimp only
  rw [← hf name]
  unfold nsFind findBy
  rw [← Array.find?_toList]
  cases h : es.toList.find? fun e => e.key.isStr name with
  | some e => rfl
  | none =>
    have : es.toList.any (·.refKey) = false := by
      rw [List.any_eq_false]
      intro e he
      obtain ⟨n, t, hk'⟩ := hk e (Array.mem_toList_iff.mp he)
      unfold DictEntry.refKey; rw [hk']; exact Bool.false_ne_true
    simp [this]
noncomputable def plainAV : AV → Bool
  | .none | .bool _ | .int _ | .str _ | .con (.ref _) => true
  | _ => false
theorem handed_plain {P : Pt} {v : AV} {x : Value} (p : plainAV v = true) (r : VR P v x) : handedIn x = true := by
  cases r <;> first | rfl | exact ff p | skip
  cases x <;> first | rfl | exact ff p
section
variable {prog : Program} {w : World} {A : Around} {E : Value → Shared → Prop} {s : Shared} {K : Frag} {x Cl dx p : Addr} {od : Obj} {m : Str → Option Value} {name : Str} {v : Value} {i : Nat}
theorem set_attrs {Q : Unit → Shared → Prop} {ns : List Str} (X : K.In s.heap) (hx : s.heap.get? x = some (instObj Cl dx)) (hd : s.heap.Ns1 dx m) (hw : Within m ns)
    (hs : findIn K (.ref Cl) "__setattr__" = some (some (.builtin "object.__setattr__"))) (hp : plainOver K Cl = true) (ht : findIn K (.ref Cl) name = some none) (hh : hasDictIn K Cl = true) (hz : ns.length ≤ 1000)
    (h : ∀ h' o', h'.get? dx = some o' → Ns1Obj o' (fun y => if y = name then some v else m y) → Heap.SameBut dx s.heap h' → Q () { s with heap := h', toks := s.toks + 2 }) :
    wpAny (model prog w) A (setAttr (.ref x) name v) Q E s := by
  obtain ⟨od, es0, ep0, hod, -⟩ := id hd
  have I : InstAt s.heap x (instObj Cl dx) Cl (some od) := ⟨hx, rfl, rfl, hod⟩
  refine set_plain X I hs (osa_open (s := { s with toks := s.toks + 1 }) X I hp (by unfold takerIn; rw [ht]; rfl) fun b => ?_)
  obtain ⟨cd, hc, hd'⟩ := any_some hh
  refine wpAny_bind (wpAny_pure (wpAny_bind (wpAny_bind (wpAny_loadPart hx (wpAny_bind ((looks_clsIn X hc).here (s := { s with toks := s.toks + 1 }) ?_))))))
  rw [hd']
  refine wpAny_pure (a := some dx) (wpAny_bind (wpAny_pure (wpAny_bind ?_)))
  refine wpAny_nsSet1 hd fun h' hn' hs' => ?_
  obtain ⟨oD, esD, epD, hoD, hdD, hcD⟩ := hn'.count (Within.cons name v hw)
  refine wpAny_bind (wpAny_lookBehind hoD (by rw [hdD]; exact pastItsLine_dict (Nat.le_trans hcD (by rw [List.length_cons, sizeLine_eq]; lia))) ?_)
  obtain ⟨o', es, ep, e', q'⟩ := hn'
  exact wpAny_pure (h h' o' e' ⟨es, ep, q'⟩ hs')
noncomputable def slotUpd (i : Nat) (v : Value) (o : Obj) : Obj := { o with slots := (o.slots ++ Array.replicate (i + 1 - o.slots.size) none).setIfInBounds i (some v) }
theorem slot_set_raw {ox : Obj} {od : Option Obj} {R : Result → Shared → Prop} (X : K.In s.heap) (I : InstAt s.heap x ox Cl od)
    (hp : slotIn K p Cl = some i) (hi : i < 1000)
    (h : R (.ok (.ret .none)) { s with heap := s.heap.update x (slotUpd i v) }) :
    codeAny (model prog w) A (.call (.builtin "member_descriptor.__set__") ⟨[.ref p, .ref x, v], []⟩) R s := by
  obtain ⟨n, tn, owner, behind, tb, d, sl, cd, ho, hc, hm, hb, rfl⟩ := slot_of X hp
  obtain ⟨hh, g, dr, t, os⟩ := s
  have L0 := I.type (M := model prog w)
  have L1 := looks_mroIn (M := model prog w) X hm
  have L2 : Looks (model prog w) hh (Slots.slotNamesOf (.ref Cl)) cd.slotNames := (looks_clsIn X hc).andThen .now
  have hx := I.at_
  dsimp only at ho hx L0 L1
  have f0 := looks_field (M := model prog w) ho 0 (v := .str n tn) rfl
  have f1 := looks_field (M := model prog w) ho 1 (v := owner) rfl
  have f3 := looks_field (M := model prog w) ho 3 (v := .builtin "proto.slot#set") rfl
  have f4 := looks_field (M := model prog w) ho 4 (v := .int behind tb) rfl
  refine codeAny_call_builtin KF.slot_mset.plain KF.entry_mset (KF.slot_mset.check _ _ _ _ _ _ _ _ ⟨_, ho, rfl⟩ (KF.args_mset _ _ _) ?_)
  unfold Builtin.«member_descriptor.__set__» descrSet descrStoreThrough descrCheckInstance descrNameAndClass isInstance
  have f5 : Looks (model prog w) hh (descrItself (.ref p)) [.ref p] := ((Looks.ld (part := none) ho).andThen .now).andThen (Looks.of_pure (by kernel_rfl))
  repeat lk
  refine ⟨Code.quiet_builtin _ (by decide +kernel), codeAny_builtin KF.entry_slotset ?_⟩
  unfold Builtin.«proto.slot#set» Slots.target
  repeat lk
  rw [if_neg hb]
  refine wpAny_pure (wpAny_bind ?_)
  unfold setSlotAt
  dsimp only
  rw [if_neg (by rw [sizeLine_eq]; lia)]
  exact wpAny_updatePart hx (wpAny_pure h)
end
theorem gPut_keys (a : Str) (v : AV) : ∀ {es : List (Str × AV)} {z : Str}, z = a ∨ z ∈ es.map (·.1) → z ∈ (gPut a v es).map (·.1)
  | [], z, h => h.elim (fun e => e ▸ List.mem_cons_self) nofun
  | p :: r, z, h => by
    unfold gPut
    by_cases e : p.1 = a
    · rw [if_pos e]
      exact h.elim (fun h => h ▸ List.mem_cons_self) fun h => (List.mem_cons.mp h).elim (fun h => (h.trans e) ▸ List.mem_cons_self) (List.mem_cons_of_mem _)
    · rw [if_neg e]
      exact h.elim (fun h => List.mem_cons_of_mem _ (gPut_keys a v (.inl h))) fun h => (List.mem_cons.mp h).elim (fun h => h ▸ List.mem_cons_self) fun h => List.mem_cons_of_mem _ (gPut_keys a v (.inr h))
theorem slotNo_lt {attr : Str} {k : Nat} (h : slotNo attr = some k) : k < 3 := by
  unfold slotNo at h
  repeat (split at h; · exact smj h ▸ (by decide))
  exact nos h
noncomputable def slotPut (vs : List (Option AV)) (k : Nat) (v : AV) : List (Option AV) := (vs ++ List.replicate (k + 1 - vs.length) none).set k (some v)
theorem slots_put {P : Pt} {vs : List (Option AV)} {sl : Array (Option Value)} {i : Nat} {v : AV} {y : Value} (q1 : sl.size = vs.length) (q2 : ∀ (i : Nat) (v : AV), vs[i]? = some (some v) → ∃ y, sl[i]? = some (some y) ∧ VR P v y) (r : VR P v y) :
    ((sl ++ Array.replicate (i + 1 - sl.size) none).setIfInBounds i (some y)).size = (slotPut vs i v).length ∧ ∀ (j : Nat) (u : AV), (slotPut vs i v)[j]? = some (some u) → ∃ z, ((sl ++ Array.replicate (i + 1 - sl.size) none).setIfInBounds i (some y))[j]? = some (some z) ∧ VR P u z := by
  unfold slotPut
  refine ⟨by simp [q1], fun j u hj => ?_⟩
  rw [List.getElem?_set] at hj
  rw [Array.getElem?_setIfInBounds]
  by_cases hji : i = j
  · rw [if_pos hji] at hj ⊢
    obtain ⟨h1, h2⟩ := ifs hj
    rw [if_pos (by rw [Array.size_append, Array.size_replicate, q1]; rwa [List.length_append, List.length_replicate] at h1)]
    exact ⟨y, rfl, smj (smj h2) ▸ r⟩
  · rw [if_neg hji] at hj ⊢
    by_cases hjs : j < vs.length
    · rw [List.getElem?_append_left hjs] at hj
      obtain ⟨z, hz, rz⟩ := q2 j u hj
      exact ⟨z, by rw [Array.getElem?_append_left (by rw [q1]; exact hjs)]; exact hz, rz⟩
    · rw [List.getElem?_append_right (Nat.le_of_not_lt hjs), List.getElem?_replicate] at hj
      exact nos (smj (ifs hj).2)
noncomputable def At (o : AV) (a : Str) (σ : St) (v : AV) : Prop := ∀ Φ P x expr, CxOk Φ.C → Ok Φ σ P → VR P o x → Lf Φ P (getAttr x a expr) fun P' z => VR P' v z
noncomputable def Sa (o : AV) (a : Str) (v : AV) (σ : St) (Q : St → Prop) : Prop := ∀ Φ P x y K E, CxOk Φ.C → Ok Φ σ P → VR P o x → VR P v y → (∀ P' σ', Le P P' → Ok Φ σ' P' → Q σ' → K () P'.s) → wpAny Φ.M Φ.A (setAttr x a y) K E P.s
section
variable {Φ : Fm} {fs : FS} {σ : St} {P : Pt} {b v w : AV} {x y : Value} {vs ws : List AV} {c : Bool} {i j : Int} {s z a : Str} {k n u : Nat} {l d : Addr} {e o r t : Expr} {p q : Pos} {Q : AV → St → Prop} {Qs : St → Prop}
theorem Attr_eq {env : Env} (h : ∀ w, attributeBase o a env w = w) : eval (.Attribute o a p) env = (do
    let ov ← eval o env
    standAt p.atName
    let r ← holding [ov] (getAttr ov a true)
    letTemporaryGo o ov r
    pure r) := by
  show (attributeBase o a env (eval o env) >>= _) = _
  rw [h]
theorem w_attr (ho : ∀ env w, attributeBase o a env w = w) (h : We fs o σ fun ov s => ∃ v, At ov a s v ∧ Q v s) : We fs (.Attribute o a p) σ Q := fun Φ P K E F ok k => by
  rw [Attr_eq (ho _)]
  exact wpAny_bind (h Φ P _ E F ok fun P1 x ov σ1 l1 ok1 r1 ⟨v, hv, q⟩ => wpAny_bind (wpAny_standAt (wpAny_bind (wpAny_holding ((hv Φ P1 x true F.cx ok1 r1).run ok1 fun P2 z l2 ok2 r2 =>
    wpAny_bind (wpAny_letTemporaryGo (wpAny_pure (k P2 z v σ1 (l1.trans l2) ok2 r2 q))))))))
theorem g_string {sp : List (Nat × Nat)} : At (.mat s sp) "string" σ (.str s) := fun Φ P x ex C ok r Q E k => r.eM fun _ _ _ _ _ _ _ e1 _ _ _ => match_string_get e1 rfl (k _ _ _ (fun _ _ e => e) (.str _ _))
theorem g_append (h : σ.H l = some (.list vs)) : At (.con (.ref l)) "append" σ (.bm "list.append" l) := fun Φ P x ex C ok r Q E k => r.eC (let ⟨o, e, its, n, d, q⟩ := ok.obj h; list_append_get (d ▸ e) (k _ _ _ (keep_push _ _) (.bm (Heap.get?_push_size _ rfl) (im_push rfl))))
theorem g_next {i : Nat} (h : σ.H l = some (.iter d i)) : At (.con (.ref l)) "__next__" σ (.bm "list_iterator.__next__" l) := fun Φ P x ex C ok r Q E k => r.eC (let ⟨o, e, d⟩ := ok.obj h; li_next_get (show _ = some _ from d ▸ e) (k _ _ _ (keep_push _ _) (.bm (Heap.get?_push_size _ rfl) (im_push rfl))))
theorem inst_at {es : List (Str × AV)} (ok : Ok Φ σ P) (h1 : σ.H l = some (.inst 234 d)) (h2 : σ.H d = some (.attrs es)) : ∃ od m, InstAt P.s.heap l (instObj 234 d) 234 (some od) ∧ P.s.heap.get? d = some od ∧ Ns1Obj od m ∧ Within m (es.map (·.1)) ∧ NsR P es m := by
  obtain ⟨o, e, rfl⟩ := ok.obj h1
  obtain ⟨od, e2, m, q1, q2, q3⟩ := ok.obj h2
  exact ⟨od, m, ⟨e, rfl, rfl, e2⟩, e2, q1, q2, q3⟩
theorem Ok.frg (C : CxOk Φ.C) (ok : Ok Φ σ P) : Φ.C.K.In P.s.heap := C.X.keeps ok.keep
theorem g_attr {es : List (Str × AV)} (h1 : σ.H l = some (.inst 234 d)) (h2 : σ.H d = some (.attrs es)) (ha : tsAttrs.contains a = true) (hv : es.lookup a = some v) (hp : plainAV v = true) : At (.con (.ref l)) a σ v := fun Φ P x ex C ok r Q E k => r.eC (by
  obtain ⟨od, m, I, e2, q1, q2, q3⟩ := inst_at ok h1 h2
  obtain ⟨y, hy, ry⟩ := q3 hv
  exact get_value (ok.frg C) I (plainGet_of C.cls.tGet).1 (findObj_own C.cls.tDict (C.cls.tName a (List.contains_iff_mem.mp ha)) rfl (by rw [lookIn_of q1, hy])) (handed_plain hp ry) (k _ _ _ (fun _ _ e => e) (ry.le (up_le fun _ _ e => e))))
theorem g_slot {sl : List (Option AV)} (h1 : σ.H l = some (.slots 137 sl)) (ha : slotNo a = some k) (hv : sl[k]? = some (some v)) (hp : plainAV v = true) : At (.con (.ref l)) a σ v := fun Φ P x ex C ok r Q E kk => r.eC (by
  obtain ⟨o, e2, sv, dx, rfl, im, q1, q2⟩ := ok.obj h1
  obtain ⟨od, hdx⟩ := ok.m.al dx im
  obtain ⟨y, hy, ry⟩ := q2 _ _ hv
  have I : InstAt P.s.heap l { cls := .ref 137, dict := some dx, data := .plain, slots := sv } 137 (some od) := ⟨e2, rfl, rfl, hdx⟩
  obtain ⟨p, p1, p2, p3, p4, p5⟩ := C.cls.nSlot a k ha
  have hg := plainGet_of C.cls.nGet
  have hf : findObj Φ.C.K 137 (some od) a = some (.bind (.builtin "member_descriptor.__get__") (.ref p)) := by
    obtain ⟨cd, hc⟩ := Option.isSome_iff_exists.mp C.cls.nCls
    unfold findObj
    rw [hc, Option.bind_some, p1, Option.bind_some]
    simp only [p2, p3, Option.bind_some, if_true]
  exact get_bind (ok.frg C) I hg.1 hf hg.2 (wpAny_call (slot_get (s := { P.s with toks := P.s.toks + 1 }) (ok.frg C) I p4 (v := y) (by show (sv[k]?).join = some y; rw [hy]; rfl) (handed_on (handed_plain hp ry) (kk _ _ _ (fun _ _ e => e) (ry.le (up_le fun _ _ e => e)))))))
theorem p_attr {es : List (Str × AV)} (h1 : σ.H l = some (.inst 234 d)) (h2 : σ.H d = some (.attrs es)) (ha : tsAttrs.contains a = true) (hl : es.length ≤ 100) (q : Qs (σ.set d (.attrs (gPut a v es)))) : Sa (.con (.ref l)) a v σ Qs := fun Φ P x y K E C ok r rv k => r.eC (by
  obtain ⟨od, m, I, e2, q1, q2, q3⟩ := inst_at ok h1 h2
  have ⟨es1, ep, hh⟩ := q1
  refine set_attrs (ok.frg C) I.at_ ⟨od, es1, ep, e2, hh⟩ q2 C.cls.tSet C.cls.tOver (C.cls.tName a (List.contains_iff_mem.mp ha)) C.cls.tDict (by rw [List.length_map]; lia) fun h' o' g' n' hs => ?_
  obtain ⟨ok', l'⟩ := ok.set (tk := P.s.toks + 2) h2 hs g' (ob' := .attrs (gPut a v es)) ⟨_, n', fun z hz => gPut_keys a v (by
    by_cases hz' : z = a
    · exact .inl hz'
    · exact .inr (q2 z (by simp only [if_neg hz'] at hz; exact hz))), NsR.put q3 rv⟩
  exact k _ _ l' ok' q)
theorem p_slot {sl : List (Option AV)} (h1 : σ.H l = some (.slots 137 sl)) (ha : slotNo a = some k) (q : Qs (σ.set l (.slots 137 (slotPut sl k v)))) : Sa (.con (.ref l)) a v σ Qs := fun Φ P x y K E C ok r rv kk => r.eC (by
  obtain ⟨o, e2, sv, dx, rfl, im, q1, q2⟩ := ok.obj h1
  obtain ⟨od, hdx⟩ := ok.m.al dx im
  have I : InstAt P.s.heap l { cls := .ref 137, dict := some dx, data := .plain, slots := sv } 137 (some od) := ⟨e2, rfl, rfl, hdx⟩
  obtain ⟨p, p1, p2, p3, p4, p5⟩ := C.cls.nSlot a k ha
  have hlt := slotNo_lt ha
  refine set_plain (ok.frg C) I C.cls.nSet (osa_descr (s := { P.s with toks := P.s.toks + 1 }) KF.slot_mset (ok.frg C) I C.cls.nOver (by unfold takerIn; rw [p1]; simp only [p3, Option.bind_some, Option.map_some, if_true]) p5
    (slot_set_raw (s := { P.s with toks := P.s.toks + 1 }) (ok.frg C) I p4 (by lia) ?_))
  obtain ⟨ok', l'⟩ := ok.set (tk := P.s.toks + 1) h1 (Heap.SameBut.update P.s.heap l (slotUpd k y)) (Heap.get?_update_self (slotUpd k y) e2 rfl) (ob' := .slots 137 (slotPut sl k v)) ⟨_, dx, rfl, im, slots_put q1 q2 rv⟩
  exact kk _ _ l' ok' q)
noncomputable def Wa (fs : FS) (t : Expr) (v : AV) (σ : St) (Q : St → Prop) : Prop := ∀ Φ P y K E, FrOk Φ fs → Ok Φ σ P → VR P v y → (∀ P' σ', Le P P' → Ok Φ σ' P' → Q σ' → K () P'.s) → wpAny Φ.M Φ.A (assign t Φ.env y) K E P.s
theorem a_name (h : Ws fs z v σ Qs) : Wa fs (.Name z p) v σ Qs := fun Φ P y K E F ok r k => wpAny_bind (wpAny_standAt (h Φ P y K E F ok r k))
theorem a_attr (h : We fs o σ fun ov s => Sa ov a v s Qs) : Wa fs (.Attribute o a p) v σ Qs := fun Φ P y K E F ok r k => by
  rw [assign_Attribute]
  exact wpAny_bind (wpAny_holding (h Φ P _ E F ok fun P1 x ov σ1 l1 ok1 r1 h1 => wpAny_bind (wpAny_standAt (wpAny_bind (wpAny_holding (h1 Φ P1 x y _ E F.cx ok1 r1 (r.le l1) fun P2 σ2 l2 ok2 q => wpAny_release (k P2 σ2 (l1.trans l2) ok2 q)))))))
theorem a_sub (h : We fs o σ fun ov s => We fs e s fun iv s => Si ov iv v s Qs) : Wa fs (.Subscript o e p) v σ Qs := fun Φ P y K E F ok r k => by
  rw [assign_Subscript]
  exact wpAny_bind (wpAny_holding (h Φ P _ E F ok fun P1 x ov σ1 l1 ok1 r1 h1 => wpAny_bind (wpAny_holding (h1 Φ P1 _ E F ok1 fun P2 z iv σ2 l2 ok2 r2 h2 => wpAny_bind (wpAny_standAt (wpAny_bind (wpAny_holding
    (h2 Φ P2 x z y _ E ok2 (r1.le l2) r2 ((r.le l1).le l2) fun P3 σ3 l3 ok3 q => wpAny_release (k P3 σ3 (l1.trans (l2.trans l3)) ok3 q)))))))))
noncomputable def Was (fs : FS) (ts : List Expr) (vs : List AV) (σ : St) (Q : St → Prop) : Prop := ∀ Φ P ys K E, FrOk Φ fs → Ok Φ σ P → VRs P vs ys → (∀ P' σ', Le P P' → Ok Φ σ' P' → Q σ' → K () P'.s) → wpAny Φ.M Φ.A (assignInOrder ((assignEach ts Φ.env).map (·.2)) ys) K E P.s
theorem a_s0 (q : Qs σ) : Was fs [] [] σ Qs := fun Φ P ys K E F ok r k => r.eN (wpAny_pure (k P σ Le.refl ok q))
theorem a_s1 {ts : List Expr} (ht : ∀ env, assignEach (t :: ts) env = (false, assign t env) :: assignEach ts env) (h : Wa fs t v σ fun s => Was fs ts vs s Qs) : Was fs (t :: ts) (v :: vs) σ Qs := fun Φ P ys K E F ok r k => r.eC fun x xs r1 r2 => by
  rw [ht]
  exact wpAny_bind (wpAny_holding (h Φ P x _ E F ok r1 fun P1 σ1 l1 ok1 h1 => h1 Φ P1 xs K E F ok1 (r2.le l1) fun P2 σ2 l2 ok2 q => k P2 σ2 (l1.trans l2) ok2 q))
theorem each_len (ts : List Expr) (env : Env) : (assignEach ts env).length = ts.length := by
  induction ts with
  | nil => rfl
  | cons t ts ih => cases t <;> exact congrArg (· + 1) ih
theorem a_tup {ts : List Expr} (hl : ts.length = vs.length) (hs : ∀ env, (assignEach ts env).findIdx? (·.1) = none) (h : Was fs ts vs σ Qs) : Wa fs (.Tuple ts u p) (.tup vs) σ Qs := fun Φ P y K E F ok r k => r.eT fun b its ht im rs => by
  show wpAny _ _ (standAt p >>= fun _ => unpack (.ref b) (assignEach ts Φ.env)) _ _ _
  refine wpAny_bind (wpAny_standAt (wpAny_unpack_tuple F.handled ht (by rw [each_len, hl, rs.size]) (hs _) fun h' hx => ?_))
  obtain ⟨ok1, l1⟩ := ok.up (tk := P.s.toks) fun b o e => hx b o (Nat.ne_of_lt (Heap.lt_size e)) e
  exact h Φ _ its.toList K E F ok1 (rs.le l1) fun P2 σ2 l2 ok2 q => k P2 σ2 (l1.trans l2) ok2 q
end
end Mine
end
section
namespace Mine
open PySem PySem.W PyProof.Rows PySem.Calls PySem.SeqAt
inductive SI (σ : St) : AV → List AV → Prop
  | li {v : AV} {vs : List AV} (h : LI σ v vs) : SI σ v vs
  | tup (vs : List AV) : SI σ (.tup vs) vs
noncomputable def WEs (fs : FS) (es : List Expr) (σ : St) (Q : List AV → St → Prop) : Prop :=
  ∀ Φ P K E pos, FrOk Φ fs → Ok Φ σ P → (∀ P' xs vs σ', Le P P' → Ok Φ σ' P' → VRs P' vs xs → Q vs σ' → K xs P'.s) → wpAny Φ.M Φ.A (spliced (backTo pos (starEach es Φ.env))) K E P.s
noncomputable def WAs (fs : FS) (es : List Expr) (σ : St) (Q : List AV → St → Prop) : Prop :=
  ∀ Φ P (K : List Value → Shared → Prop) E pos g, FrOk Φ fs → Ok Φ σ P → (∀ P' xs vs σ', Le P P' → Ok Φ σ' P' → VRs P' vs xs → Q vs σ' → K xs P'.s) → wpAny Φ.M Φ.A (evalArgs g true (backTo pos (starEach es Φ.env)) []) (fun a s' => a.kw = [] ∧ K a.pos s') E P.s
noncomputable def Kpg (Φ : Fm) (P : Pt) (g : Value) : Prop := ∃ k, (k = Keeper.frame ∨ k = Keeper.machine ∨ k = Keeper.boundFrame) ∧ Looks Φ.M P.s.heap (keeperOf g) k
noncomputable def Kp (fs : FS) (fv : AV) : Prop := ∀ Φ P σ g, FrOk Φ fs → Ok Φ σ P → VR P fv g → Kpg Φ P g
noncomputable def Ac (fs : FS) (fv : AV) (vs : List AV) (σ : St) (Q : AV → St → Prop) : Prop :=
  ∀ Φ P g xs K E, FrOk Φ fs → Ok Φ σ P → VR P fv g → VRs P vs xs → (∀ P' x v σ', Le P P' → Ok Φ σ' P' → VR P' v x → Q v σ' → K x P'.s) → wpAny Φ.M Φ.A (call g xs) K E P.s
noncomputable def Mg (ov : AV) (m : Str) (id : String) (σ : St) : Prop := ∀ Φ P x pl K E, CxOk Φ.C → Ok Φ σ P → VR P ov x → K (.builtin id, [x]) P.s → wpAny Φ.M Φ.A (getMethod x m pl) K E P.s
section
variable {Φ : Fm} {fs : FS} {σ : St} {P : Pt} {v fv ov : AV} {x g : Value} {vs ws : List AV} {n u : Nat} {l : Addr} {e o e' : Expr} {es : List Expr} {p q : Pos} {Q : AV → St → Prop} {Ql : List AV → St → Prop} {m : Str}
theorem star_ok {Q : List Value → Shared → Prop} {E : Value → Shared → Prop} (ok : Ok Φ σ P) (h : SI σ v vs) (r : VR P v x) (hl : vs.length ≤ lim) (q : ∀ P' xs, Le P P' → Ok Φ σ P' → VRs P' vs xs → Q xs P'.s) : StarOf Φ.M Φ.A E x Q P.s := by
  have fin : ∀ (its : Array Value), VRs P vs its.toList → ∀ h', (∀ b o, P.s.heap.get? b = some o → h'.get? b = some o) → Q its.toList { P.s with heap := h' } := fun its r h' hk => let ⟨a, b⟩ := ok.up (tk := P.s.toks) hk; q _ _ b a (r.le b)
  rcases h with h | ⟨vs⟩
  · refine h.e ok r fun l its hl' q => ?_
    obtain ⟨o, e1, e2, k, e3⟩ := id hl'
    unfold StarOf notIterableAtAll
    refine wpAny_bind (wpAny_specialOf hl'.typeIs PySem.F.slot_list_iter.lookup (wpAny_pure ⟨rfl, ?_⟩))
    exact wpAny_collect_seq l (.inl rfl) e1 e2 e3 (fin its q) (by rw [q.size]; exact lim_size hl)
  · refine r.eT fun l its ⟨o, e1, e2, k, e3⟩ _ q => ?_
    unfold StarOf notIterableAtAll
    refine wpAny_bind (wpAny_specialOf ⟨o, e1, e2⟩ PySem.F.slot_tuple_iter.lookup (wpAny_pure ⟨rfl, ?_⟩))
    exact wpAny_collect_seq l (.inr rfl) e1 e2 e3 (fin its q) (by rw [q.size]; exact lim_size hl)
theorem w_evs0 (q : Ql [] σ) : WEs fs [] σ Ql := fun Φ P K E pos F ok k => wpAny_pure (k P [] [] σ Le.refl ok .nil q)
theorem w_evs1 (hs : ∀ env, starEach (e :: es) env = (false, eval e env) :: starEach es env) (h : We fs e σ fun v s => WEs fs es s fun vs s => Ql (v :: vs) s) : WEs fs (e :: es) σ Ql := fun Φ P K E pos F ok k => by
  rw [hs]
  exact spliced_cons (h Φ P _ E F ok fun P1 x v σ1 l1 ok1 r1 h1 => h1 Φ P1 _ E pos F ok1 fun P2 xs vs σ2 l2 ok2 r2 q => k P2 (x :: xs) (v :: vs) σ2 (l1.trans l2) ok2 (.cons (r1.le l2) r2) q)
theorem w_evss (h : We fs e σ fun v s => ∃ vs, SI s v vs ∧ vs.length ≤ lim ∧ WEs fs es s fun ws s => Ql (vs ++ ws) s) : WEs fs (.Starred e p :: es) σ Ql := fun Φ P K E pos F ok k =>
  ks_spliced (h Φ P _ E F ok fun P1 x v σ1 l1 ok1 r1 ⟨vs, h1, h2, h3⟩ => star_ok ok1 h1 r1 h2 fun P2 xs l2 ok2 r2 => h3 Φ P2 _ E pos F ok2 fun P3 ys ws σ3 l3 ok3 r3 q => k P3 _ _ σ3 (l1.trans (l2.trans l3)) ok3 ((r2.le l3).append r3) q)
theorem size_sys (F : CxOk Φ.C) (ok : Ok Φ σ P) {a : Addr} (h : P.s.heap.objs.size ≤ a) : a ≠ sysModules := fun z => by
  obtain ⟨o, e⟩ := F.b2
  exact absurd (Nat.lt_of_lt_of_le (Heap.lt_size (ok.keep _ _ e)) h) (by rw [z]; decide)
theorem add_push (F : CxOk Φ.C) (ok : Ok Φ σ P) {o : Obj} {ob : AObj} {tk : Nat} (hf : o.isFreed = false) (q : OP Φ.C P ob o) : Ok Φ (σ.set P.s.heap.objs.size ob) (P.up (P.s.heap.push o) tk (· = P.s.heap.objs.size)) ∧ Le P (P.up (P.s.heap.push o) tk (· = P.s.heap.objs.size)) ∧ σ.H P.s.heap.objs.size = none :=
  let ⟨a, b⟩ := ok.add (keep_push _ _) (get_size _) (size_sys F ok (Nat.le_refl _)) (Heap.get?_push_size _ hf) q; ⟨a, b, (ok.dead (get_size _)).1⟩
theorem w_list (h : WEs fs es σ fun vs s => vs.length ≤ lim ∧ ∀ a, s.H a = none → Q (.con (.ref a)) (s.set a (.list vs))) : We fs (.List es p) σ Q := fun Φ P K E F ok k =>
  wpAny_List (h Φ P _ E _ F ok fun P1 xs vs σ1 l1 ok1 r1 ⟨h1, h2⟩ => ⟨by rw [r1.length]; exact lim_size h1,
    let ⟨a, b, c⟩ := add_push F.cx ok1 (tk := P1.s.toks) (ob := .list vs) (o := { cls := .type "list", data := .seq xs.toArray }) rfl ⟨xs.toArray, 0, rfl, r1⟩
    k _ _ _ _ (l1.trans b) a (.con _) (h2 _ c)⟩)
theorem tup_new (ok : Ok Φ σ P) {xs : List Value} (r : VRs P vs xs) : let P' := P.gr (P.s.heap.push { cls := .type "tuple", data := .seq xs.toArray }) P.s.toks; Ok Φ σ P' ∧ Le P P' ∧ VR P' (.tup vs) (.ref P.s.heap.objs.size) :=
  let ⟨a, b⟩ := ok.up (tk := P.s.toks) (keep_push P.s.heap { cls := .type "tuple", data := .seq xs.toArray }); ⟨a, b, .tup ⟨_, Heap.get?_push_size _ rfl, rfl, _, rfl⟩ (im_push rfl) (r.le b)⟩
theorem w_tuple (h : WEs fs es σ fun vs s => vs.length ≤ lim ∧ Q (.tup vs) s) : We fs (.Tuple es u p) σ Q := fun Φ P K E F ok k =>
  wpAny_Tuple (h Φ P _ E _ F ok fun P1 xs vs σ1 l1 ok1 r1 ⟨h1, h2⟩ => ⟨by rw [r1.length]; exact lim_size h1, let ⟨a, b, c⟩ := tup_new ok1 r1; k _ _ _ σ1 (l1.trans b) a c h2⟩)
theorem w_dict0 (q : ∀ a, σ.H a = none → Q (.con (.ref a)) (σ.set a (.dictI [] 0))) : We fs (.Dict [] [] p) σ Q := fun Φ P K E F ok k =>
  let ⟨a, b, c⟩ := add_push F.cx ok (tk := P.s.toks) (ob := .dictI [] 0) (o := { cls := .type "dict", data := .dict #[] }) rfl ⟨[], ⟨#[], ⟨rfl, rfl, rfl⟩, rfl, fun e he => absurd he (Array.not_mem_empty e), .nil, .nil⟩, rfl, .nil⟩
  wpAny_Dict_empty (k _ _ _ _ b a (.con _) (q _ c))
theorem evalArgs_any {M : Model} {A : Around} {s : Shared} {E : Value → Shared → Prop} {g : Value} {args : List (Bool × Sem Value)} {Q : List Value → Shared → Prop} (hn : ∀ x, args ≠ [(true, x)]) (h : wpAny M A (spliced args) Q E s) :
    wpAny M A (evalArgs g true args []) (fun a s' => a.kw = [] ∧ Q a.pos s') E s := by
  unfold evalArgs
  cases args with
  | nil =>
    show wpAny M A (spliced [] >>= _) _ E s
    exact wpAny_bind (wpAny_mono h (fun vs s' h' => wpAny_holding (wpAny_bind (wpAny_pure (wpAny_bind (wpAny_pure (wpAny_pure ⟨rfl, h'⟩)))))) fun _ _ x => x)
  | cons p rest =>
    obtain ⟨b, x⟩ := p
    cases rest with
    | nil =>
      cases b with
      | true => exact absurd rfl (hn x)
      | false =>
        show wpAny M A (spliced [(false, x)] >>= _) _ E s
        exact wpAny_bind (wpAny_mono h (fun vs s' h' => wpAny_holding (wpAny_bind (wpAny_pure (wpAny_bind (wpAny_pure (wpAny_pure ⟨rfl, h'⟩)))))) fun _ _ x => x)
    | cons q rest =>
      cases b
      · show wpAny M A (spliced ((false, x) :: q :: rest) >>= _) _ E s
        exact wpAny_bind (wpAny_mono h (fun vs s' h' => wpAny_holding (wpAny_bind (wpAny_pure (wpAny_bind (wpAny_pure (wpAny_pure ⟨rfl, h'⟩)))))) fun _ _ x => x)
      · show wpAny M A (spliced ((true, x) :: q :: rest) >>= _) _ E s
        exact wpAny_bind (wpAny_mono h (fun vs s' h' => wpAny_holding (wpAny_bind (wpAny_pure (wpAny_bind (wpAny_pure (wpAny_pure ⟨rfl, h'⟩)))))) fun _ _ x => x)
theorem wa_nil (q : Ql [] σ) : WAs fs [] σ Ql := fun Φ P K E pos g F ok k => evalArgs_any nofun (w_evs0 q Φ P K E pos F ok k)
theorem wa_one (hs : ∀ env, starEach [e] env = [(false, eval e env)]) (h : We fs e σ fun v s => Ql [v] s) : WAs fs [e] σ Ql := fun Φ P K E pos g F ok k =>
  evalArgs_any (by rw [hs]; exact nofun) (w_evs1 (Ql := Ql) hs (h.mono fun v s q => w_evs0 q) Φ P K E pos F ok k)
theorem starEach_len (es : List Expr) (env : Env) : (starEach es env).length = es.length := by
  induction es with
  | nil => rfl
  | cons e l ih => cases e <;> exact congrArg (· + 1) ih
theorem wa_more (h : WEs fs (e :: e' :: es) σ Ql) : WAs fs (e :: e' :: es) σ Ql := fun Φ P K E pos g F ok k => evalArgs_any (fun x z => by
  have z := congrArg List.length z
  unfold backTo at z
  rw [List.length_map, starEach_len] at z
  exact nomatch z) (h Φ P K E pos F ok k)
theorem wa_star (h : We fs e σ fun v s => ∃ vs, SI s v vs ∧ vs.length ≤ lim ∧ Ql vs s) : WAs fs [.Starred e p] σ Ql := fun Φ P K E pos g F ok k =>
  ks_lone (h Φ P _ E F ok fun P1 x v σ1 l1 ok1 r1 ⟨vs, h1, h2, h3⟩ => star_ok ok1 h1 r1 h2 fun P2 xs l2 ok2 r2 => ⟨rfl, k P2 xs vs σ1 (l1.trans l2) ok2 r2 h3⟩)
theorem callWith_w {first : List Value} {K : Value → Shared → Prop} {E : Value → Shared → Prop} {pos : Pos} (F : FrOk Φ fs) (ok : Ok Φ σ P) (h : WAs fs es σ Ql) (hk : ∀ P' σ', Le P P' → Ok Φ σ' P' → Kpg Φ P' g)
    (hc : ∀ P' xs vs σ', Le P P' → Ok Φ σ' P' → VRs P' vs xs → Ql vs σ' → wpAny Φ.M Φ.A (call g (first ++ xs)) K E P'.s) : wpAny Φ.M Φ.A (callWith pos g first (backTo pos (starEach es Φ.env)) []) K E P.s := by
  have ha := h Φ P (fun xs s' => (∃ k, (k = Keeper.frame ∨ k = Keeper.machine ∨ k = Keeper.boundFrame) ∧ Looks Φ.M s'.heap (keeperOf g) k) ∧ wpAny Φ.M Φ.A (call g (first ++ xs)) K E s') E pos g F ok fun P1 xs vs σ1 l1 ok1 r1 q => ⟨hk P1 σ1 l1 ok1, hc P1 xs vs σ1 l1 ok1 r1 q⟩
  have ha := wpAny_mono ha (Q' := fun a s' => (∃ k, (k = Keeper.frame ∨ k = Keeper.machine ∨ k = Keeper.boundFrame) ∧ Looks Φ.M s'.heap (keeperOf g) k) ∧ wpAny Φ.M Φ.A (call g (first ++ a.pos) a.kw) K E s') (fun a s' z => ⟨z.2.1, z.1 ▸ z.2.2⟩) fun _ _ x => x
  have hk2 : ∀ h : Heap, (∃ k, (k = Keeper.frame ∨ k = Keeper.machine ∨ k = Keeper.boundFrame) ∧ Looks Φ.M h (keeperOf g) k) → ∃ k, (k = Keeper.frame ∨ k = Keeper.machine ∨ k = Keeper.boundFrame) ∧ Looks Φ.M h (keeperOf g) k := fun _ z => z
  cases hst : (backTo pos (starEach es Φ.env)).any (·.1) with
  | true => exact ks_call hst hk2 ha
  | false => exact callWith_of (by rw [hst]; rfl) hk2 ha
theorem w_call (hne : ∀ env, eval (.Call e es [] p) env = (do callWith p (← eval e env) [] (backTo p (starEach es env)) [])) (h : We fs e σ fun fv s => Kp fs fv ∧ WAs fs es s fun vs s => Ac fs fv vs s Q) : We fs (.Call e es [] p) σ Q := fun Φ P K E F ok k => by
  rw [hne]
  exact wpAny_bind (h Φ P _ E F ok fun P1 g fv σ1 l1 ok1 r1 ⟨h1, h2⟩ => callWith_w F ok1 h2 (fun P2 σ2 l2 ok2 => h1 Φ P2 σ2 g F ok2 (r1.le l2)) fun P2 xs vs σ2 l2 ok2 r2 q => q Φ P2 g xs K E F ok2 (r1.le l2) r2 fun P3 x v σ3 l3 ok3 r3 q => k P3 x v σ3 (l1.trans (l2.trans l3)) ok3 r3 q)
theorem kp_prim {c : Value} (h : ∀ a, c ≠ .ref a) : Kp fs (.con c) := fun Φ P σ g F ok r => r.eC ⟨.machine, .inr (.inl rfl), by cases c <;> first | exact Looks.now | exact absurd rfl (h _)⟩
theorem kp_K {a : Addr} (h : ∀ Φ : Fm, CxOk Φ.C → Φ.C.T = fs.T → keepIn Φ.C.K (.ref a) = true) : Kp fs (.con (.ref a)) := fun Φ P σ g F ok r => r.eC (keeps_K (h Φ F.cx F.T) _ (ok.frag F))
theorem kp_bm {id : String} {b : Addr} : Kp fs (.bm id b) := fun Φ P σ g F ok r => r.eBm fun a e im => ⟨.machine, .inr (.inl rfl), by
  unfold keeperOf
  refine (Looks.ld (part := none) e).andThen ?_
  unfold bmObj bmKind
  dsimp only
  split <;> exact Looks.now⟩
noncomputable def isStar : Expr → Bool
  | .Starred .. => true
  | _ => false
theorem backTo_any (es : List Expr) (pos : Pos) (env : Env) : (backTo pos (starEach es env)).any (·.1) = es.any isStar := by
  induction es with
  | nil => rfl
  | cons e l ih => cases e <;> exact congrArg (_ || ·) ih
noncomputable def CallBack (Q : Value → Shared → Prop) (E : Value → Shared → Prop) (r : Result) (s' : Shared) : Prop := match r with
  | .ok (.ret v) => Q v s'
  | .ok _ => False
  | .error e => E e s'
noncomputable def Fc (fs : FS) (a : Addr) (vs : List AV) (σ : St) (Q : AV → St → Prop) : Prop :=
  ∀ Φ P xs K E, FrOk Φ fs → Ok Φ σ P → VRs P vs xs → (∀ P' x v σ', Le P P' → Ok Φ σ' P' → VR P' v x → Q v σ' → K x P'.s) → codeAny Φ.M Φ.A (.call (.ref a) ⟨xs, []⟩) (CallBack K E) P.s
theorem ac_fn {a : Addr} (h : Fc fs a vs σ Q) : Ac fs (.con (.ref a)) vs σ Q := fun Φ P g xs K E F ok r rs k => r.eC (wpAny_call (codeAny_mono (h Φ P xs K E F ok rs k) fun r s' x => x))
theorem form_eq (hs : es.any isStar = false) (hn : es.length < 20) {env : Env} {pos : Pos} : methodCallForm (es.length + ([] : List Keyword).length) (backTo pos (starEach es env)) (backToKw pos (keywordEach [] env)) = true := by
  unfold methodCallForm
  rw [show (backTo pos (starEach es env)).all (fun x => !x.1) = !(es.any isStar) from by rw [← backTo_any es pos env, List.any_eq_not_all_not, Bool.not_not], hs]
  exact decide_eq_true (Nat.lt_of_lt_of_le hn (by decide))
theorem form_star (hs : es.any isStar = true) {env : Env} {pos : Pos} : methodCallForm (es.length + ([] : List Keyword).length) (backTo pos (starEach es env)) (backToKw pos (keywordEach [] env)) = false := by
  unfold methodCallForm
  rw [show (backTo pos (starEach es env)).all (fun x => !x.1) = !(es.any isStar) from by rw [← backTo_any es pos env, List.any_eq_not_all_not, Bool.not_not], hs]
  rfl
theorem pos_eq {few : Bool} {env : Env} {apos : Pos} (hl : (apos.endLine == p.line) = true) : methodCallPos few o env apos p = pure p := by unfold methodCallPos; rw [hl, Bool.or_true]; rfl
theorem meth_at {apos : Pos} (ho : ∀ env w, attributeBase o m env w = w) (hl : (apos.endLine == p.line) = true) (hs : es.any isStar = false) (hn : es.length < 20) {R : AV → St → Prop} (h : We fs o σ R) {Φ : Fm} {P : Pt} {K : Value → Shared → Prop} {E : Value → Shared → Prop} (F : FrOk Φ fs) (ok : Ok Φ σ P)
    (k : ∀ P1 x ov σ1, Le P P1 → Ok Φ σ1 P1 → VR P1 ov x → R ov σ1 → ∀ pl, wpAny Φ.M Φ.A (getMethod x m pl) (fun r s' => wpAny Φ.M Φ.A (callWith p r.1 r.2 (backTo p (starEach es Φ.env)) []) K E s') E P1.s) : wpAny Φ.M Φ.A (eval (.Call (.Attribute o m apos) es [] p) Φ.env) K E P.s := by
  rw [arm_eval_Call, ho]
  refine wpAny_bind (h Φ P _ E F ok fun P1 x ov σ1 l1 ok1 r1 q => wpAny_bind (wpAny_standAt ?_))
  unfold methodCall
  rw [form_eq hs hn, pos_eq hl]
  exact wpAny_bind (wpAny_holding (wpAny_mono (k P1 x ov σ1 l1 ok1 r1 q _) (fun r s' z => wpAny_bind (wpAny_pure z)) fun _ _ x => x))
theorem w_meth {apos : Pos} (ho : ∀ env w, attributeBase o m env w = w) (hl : (apos.endLine == p.line) = true) (hs : es.any isStar = false) (hn : es.length < 20)
    (h : We fs o σ fun ov s => ∃ id, Mg ov m id s ∧ WAs fs es s fun vs s => Ac fs (.con (.builtin id)) (ov :: vs) s Q) : We fs (.Call (.Attribute o m apos) es [] p) σ Q := fun Φ P K E F ok k =>
  meth_at ho hl hs hn h F ok fun P1 x ov σ1 l1 ok1 r1 ⟨id, h1, h2⟩ pl => h1 Φ P1 x pl _ E F.cx ok1 r1 (callWith_w F ok1 h2 (fun P2 σ2 l2 ok2 => kp_prim (fs := fs) (c := .builtin id) (fun a z => nomatch z) Φ P2 σ2 _ F ok2 (.con _)) fun P2 xs vs σ2 l2 ok2 r2 q =>
    q Φ P2 _ (x :: xs) K E F ok2 (.con _) (.cons (r1.le l2) r2) fun P3 x v σ3 l3 ok3 r3 q => k P3 x v σ3 (l1.trans (l2.trans l3)) ok3 r3 q)
theorem inst_names {es : List (Str × AV)} {a : Addr} {C : Cx} (K : CxOk C) (h : methOf m = some a) (ha : (es.all fun p => tsAttrs.contains p.1) = true) {mm : Str → Option Value} (hw : Within mm (es.map (·.1))) : mm m = none := by
  cases hm : mm m with
  | none => rfl
  | some y =>
    obtain ⟨p, hp, rfl⟩ := List.mem_map.mp (hw m (by rw [hm]; exact nofun))
    exact ff ((K.cls.meth _ _ h).2.2.2.2.2.symm.trans (List.all_eq_true.mp ha p hp))
noncomputable def Inst (σ : St) (i : Addr) : Prop := ∃ d es, σ.H i = some (.inst 234 d) ∧ σ.H d = some (.attrs es) ∧ (es.all fun p => tsAttrs.contains p.1) = true
theorem w_mine {apos : Pos} {a : Addr} (ho : ∀ env w, attributeBase o m env w = w) (hl : (apos.endLine == p.line) = true) (hs : es.any isStar = false) (hn : es.length < 20) (hm : methOf m = some a)
    (h : We fs o σ fun ov s => ∃ i, ov = .con (.ref i) ∧ Inst s i ∧ WAs fs es s fun vs s => Fc fs a (ov :: vs) s Q) : We fs (.Call (.Attribute o m apos) es [] p) σ Q := fun Φ P K E F ok k =>
  meth_at ho hl hs hn h F ok fun P1 x ov σ1 l1 ok1 r1 z pl => by
    obtain ⟨i, e0, ⟨d, es', i1, i2, i3⟩, h2⟩ := z
    obtain rfl : x = .ref i := by rw [e0] at r1; exact r1.inv
    obtain ⟨od, mm, I, e2, q1, q2, q3⟩ := inst_at ok1 i1 i2
    have hg := plainGet_of F.cx.cls.tGet
    have m12 := F.cx.cls.tMeth m a hm
    refine method_fn (ok1.frag F) I hg.1 hg.2 m12.1 m12.2 (by unfold shadowIn; dsimp only; rw [lookIn_of q1, inst_names F.cx hm i3 q2]; rfl) ?_
    exact callWith_w F ok1 h2 (fun P2 σ2 l2 ok2 => keeps_K (F.cx.cls.meth m a hm).2.2.2.1 _ (ok2.frag F)) fun P2 xs vs σ2 l2 ok2 r2 q =>
      wpAny_call (codeAny_mono (q Φ P2 (_ :: xs) K E F ok2 (.cons (r1.le l2) r2) fun P3 x v σ3 l3 ok3 r3 q => k P3 x v σ3 (l1.trans (l2.trans l3)) ok3 r3 q) fun r s' x => x)
theorem w_mineS {apos : Pos} {a : Addr} (ho : ∀ env w, attributeBase o m env w = w) (hl : (apos.endLine == p.line) = true) (hs : es.any isStar = true) (hm : methOf m = some a)
    (h : We fs o σ fun ov s => ∃ i, ov = .con (.ref i) ∧ Inst s i ∧ WAs fs es s fun vs s => Fc fs a (ov :: vs) s Q) : We fs (.Call (.Attribute o m apos) es [] p) σ Q := fun Φ P K E F ok k => by
  rw [arm_eval_Call, ho]
  refine wpAny_bind (h Φ P _ E F ok fun P1 x ov σ1 l1 ok1 r1 ⟨i, e0, ⟨d, es', i1, i2, i3⟩, h2⟩ => wpAny_bind (wpAny_standAt ?_))
  obtain rfl : x = .ref i := by rw [e0] at r1; exact r1.inv
  unfold methodCall
  rw [form_star hs, pos_eq hl]
  obtain ⟨od, mm, I, e2, q1, q2, q3⟩ := inst_at ok1 i1 i2
  have hg := plainGet_of F.cx.cls.tGet
  have m12 := F.cx.cls.tMeth m a hm
  obtain ⟨m3, m4, m5, m6, m7, m8⟩ := F.cx.cls.meth m a hm
  have X := ok1.frag F
  have hf : findObj Φ.C.K 234 (some od) m = some (.bind (.builtin "function.__get__") (.ref a)) := by
    obtain ⟨cd, hc, hd⟩ := any_some F.cx.cls.tDict
    unfold findObj
    rw [hc, Option.bind_some, m12.1, Option.bind_some]
    simp only [m3, m4, Option.bind_some]
    unfold W.ownOf
    rw [if_pos hd]
    simp only [lookIn_of q1, inst_names F.cx hm i3 q2, Option.bind_some, m7, Bool.false_and, Bool.false_eq_true, if_false]
  refine wpAny_bind (wpAny_holding ?_)
  show wpAny _ _ (getAttr (.ref i) m true >>= fun g => pure (g, [])) _ _ _
  refine wpAny_bind (get_bind X I hg.1 hf hg.2 (wpAny_call (fn_get (s := { P1.s with toks := P1.s.toks + 1 }) X m12.2 (handed_on rfl (wpAny_pure (wpAny_bind (wpAny_pure ?_)))))))
  obtain ⟨ok1', l1'⟩ := ok1.up (tk := P1.s.toks + 1) (keep_push P1.s.heap (methodObj (.ref a) (.ref i)))
  have im := im_push (P := P1) (o := methodObj (.ref a) (.ref i)) (tk := P1.s.toks + 1) rfl
  have hb : (P1.s.heap.push (methodObj (.ref a) (.ref i))).get? P1.s.heap.objs.size = some (methodObj (.ref a) (.ref i)) := Heap.get?_push_size _ rfl
  refine callWith_w (P := P1.gr (P1.s.heap.push (methodObj (.ref a) (.ref i))) (P1.s.toks + 1)) F ok1' h2 (fun P2 σ2 l2 ok2 => keeps_M m5 _ ⟨l2.keep im hb, ok2.frag F⟩) fun P2 xs vs σ2 l2 ok2 r2 q => ?_
  exact wpAny_call (codeAny_mono (method_call (l2.keep im hb) (q Φ P2 (_ :: xs) K E F ok2 (.cons ((r1.le l1').le l2) r2) fun P3 x v σ3 l3 ok3 r3 q => k P3 x v σ3 (l1.trans (l1'.trans (l2.trans l3))) ok3 r3 q)) fun r s' x => x)
end
end Mine
end
section
namespace Mine
open PySem PySem.W PyProof.Rows PySem.Calls PySem.SeqAt
namespace G
theorem has_append : (Manifest.sig_list.lookup (String.ofList ['d', 'n', 'e', 'p', 'p', 'a'].reverse)).isSome = true := by decide +kernel
noncomputable def sgA : Manifest.Signature := (Manifest.sig_list.lookup (String.ofList ['d', 'n', 'e', 'p', 'p', 'a'].reverse)).get has_append
theorem sg_append : Manifest.signature? "list.append" = some sgA := by
  rw [signature?_of (id := "list.append") (n := ['d', 'n', 'e', 'p', 'p', 'a']) (o := ['t', 's', 'i', 'l']) (by kernel_rfl) PySem.F.owner_list]
  exact (Option.some_get _).symm
theorem kind_append : builtinKind "list.append" = some .method := by decide +kernel
theorem list_no_module : isSubtype (.type "list") (.type "module") = pure false := by rw [isSubtype_type]; kernel_rfl
theorem no_varargs_append : Manifest.varargsMethods.contains "list.append" = false := by decide +kernel
theorem check_append (a b : Value) : Bind.checkArgs "list.append" { sgA with full := s!"{Bind.lastOf "list"}.{Bind.lastOf "list.append"}" } ⟨[a, b], []⟩ = pure () := by kernel_rfl
theorem has_next : (Manifest.sig_list_iterator.lookup (String.ofList ['_', '_', 't', 'x', 'e', 'n', '_', '_'].reverse)).isSome = true := by decide +kernel
noncomputable def sgN : Manifest.Signature := (Manifest.sig_list_iterator.lookup (String.ofList ['_', '_', 't', 'x', 'e', 'n', '_', '_'].reverse)).get has_next
theorem owner_li : Manifest.owners.lookup (String.ofList ['r', 'o', 't', 'a', 'r', 'e', 't', 'i', '_', 't', 's', 'i', 'l'].reverse) = some Manifest.sig_list_iterator := by kernel_rfl
theorem sg_next : Manifest.signature? "list_iterator.__next__" = some sgN := by
  rw [signature?_of (id := "list_iterator.__next__") (n := ['_', '_', 't', 'x', 'e', 'n', '_', '_']) (o := ['r', 'o', 't', 'a', 'r', 'e', 't', 'i', '_', 't', 's', 'i', 'l']) (by kernel_rfl) owner_li]
  exact (Option.some_get _).symm
theorem kind_next : builtinKind "list_iterator.__next__" = some .slot := by decide +kernel
theorem check_next (a : Value) : Bind.checkArgs "list_iterator.__next__" sgN ⟨[a], []⟩ = pure () := by kernel_rfl
end G
section
variable {prog : Program} {w : World} {A : Around} {E : Value → Shared → Prop} {s : Shared}
theorem bound_append {l : Addr} {x : Value} {its : Array Value} {n : Nat} {Q : Unit → Shared → Prop} (hl : s.heap.get? l = some { cls := .type "list", data := .seq its n }) (h : Q () s) :
    wpAny (model prog w) A (checkBoundCall "list.append" ⟨[.ref l, x], []⟩) Q E s := by
  have hT : s.TypeIs (.ref l) "list" := ⟨_, hl, rfl⟩
  unfold checkBoundCall
  rw [G.sg_append, G.kind_append]
  dsimp only
  rw [if_neg (by decide)]
  refine wpAny_bind (wpAny_isInstance hT G.list_no_module ?_)
  rw [G.no_varargs_append, if_neg (by decide)]
  have hit : wpAny (model prog w) A (isType (.ref l)) (fun b s' => b = false ∧ s' = s) E s := by
    unfold isType loadHead
    exact wpAny_bind (wpAny_loadPart hl (wpAny_pure ⟨rfl, rfl⟩))
  refine wpAny_bind (wpAny_mono hit (fun b s' hb => ?_) fun _ _ e => e)
  obtain ⟨rfl, hs⟩ := hb
  rw [hs, if_neg (by decide)]
  refine wpAny_bind (wpAny_typeOf hT ?_)
  exact wpAny_of_eq (G.check_append _ _) h
theorem bound_next {l : Addr} {Q : Unit → Shared → Prop} (h : Q () s) : wpAny (model prog w) A (checkBoundCall "list_iterator.__next__" ⟨[.ref l], []⟩) Q E s := by
  unfold checkBoundCall
  rw [G.sg_next, G.kind_next]
  dsimp only
  rw [if_pos (by decide)]
  exact wpAny_of_eq (G.check_next _) h
theorem call_bm {id : String} {a b : Addr} {ys : List Value} {R : Result → Shared → Prop} (ha : s.heap.get? a = some (bmObj id b)) (hc : ∀ (A : Around) (Q : Unit → Shared → Prop) (E : Value → Shared → Prop), Q () s → wpAny (model prog w) A (checkBoundCall id ⟨.ref b :: ys, []⟩) Q E s)
    (hq : (Code.builtin id ⟨.ref b :: ys, []⟩).quiet = true) (h : codeAny (model prog w) A (.builtin id ⟨.ref b :: ys, []⟩) R s) :
    codeAny (model prog w) A (.call (.ref a) ⟨ys, []⟩) R s := by
  refine codeAny_of_tree ?_
  show wpAny _ _ (callAny (.ref a) _) _ _ _
  unfold callAny
  refine wpAny_bind (wpAny_load ha ?_)
  dsimp only [bmObj]
  have hcls : ((Value.type (bmKind id) == .type "method" || Value.type (bmKind id) == .type "builtin_function_or_method" || Value.type (bmKind id) == .type "method-wrapper") = true) ∧ (Value.type (bmKind id) != .type "method") = true := by
    unfold bmKind
    split <;> decide
  rw [if_pos hcls.1]
  show wpAny _ _ (if (Value.type (bmKind id) != .type "method") = true then _ else _) _ _ _
  rw [if_pos hcls.2]
  refine wpAny_bind (hc _ _ _ ?_)
  exact wpAny_pure ⟨hq, h⟩
end
end Mine
end
section
namespace Mine
open PySem PySem.W PyProof.Rows PySem.Calls PySem.SeqAt Builtin.Str
section sortby
variable {α : Type} {le : α → α → Bool}
end sortby
theorem entry_iter : entryFor table "iter" = some Builtin.«iter» := entryFor_of_tree (by kernel_rfl)
theorem args_iter (a : Value) : argsOk "iter" ⟨[a], []⟩ := by unfold argsOk; kernel_rfl
section
variable {Φ : Fm} {fs : FS} {σ : St} {P P' : Pt} {v w fv ov : AV} {x g : Value} {vs ws : List AV} {xs ys : List Value} {n u : Nat} {i j : Int} {s t : Str} {l : Addr} {Q : AV → St → Prop} {ss : List Str} {ns : List Int} {bs : List Bool}
theorem intsAre (r : VRs P (ns.map .int) xs) : IntsAre xs ns := by
  induction ns generalizing xs with
  | nil => exact VRs.eN (m := fun xs => IntsAre xs []) r .nil
  | cons a l ih => exact VRs.eC (m := fun xs => IntsAre xs (a :: l)) r fun x ys q r => q.eI fun t => .cons _ _ (ih r)
theorem boolsAre (r : VRs P (bs.map .bool) xs) : LSm.BoolsAre xs bs := by
  induction bs generalizing xs with
  | nil => exact VRs.eN (m := fun xs => LSm.BoolsAre xs []) r .nil
  | cons a l ih => exact VRs.eC (m := fun xs => LSm.BoolsAre xs (a :: l)) r fun x ys q r => q.eB (.cons _ (ih r))
@[elab_as_elim] theorem VRs.e1 {m : List Value → Prop} (r : VRs P [v] xs) (h : ∀ x, VR P v x → m [x]) : m xs := r.eC fun x ys q r => r.eN (h x q)
@[elab_as_elim] theorem VRs.e2 {m : List Value → Prop} (r : VRs P [v, w] xs) (h : ∀ x y, VR P v x → VR P w y → m [x, y]) : m xs := r.eC fun x ys q r => r.e1 fun y q' => h x y q q'
theorem Ac.lf (h : ∀ Φ P g xs, FrOk Φ fs → Ok Φ σ P → VR P fv g → VRs P vs xs → Lf Φ P (call g xs) fun P' z => VR P' w z) (q : Q w σ) : Ac fs fv vs σ Q := fun Φ P g xs K E F ok r rs k =>
  (h Φ P g xs F ok r rs).run ok fun P' z l ok' r' => k P' z w σ l ok' r' q
theorem ac1 {c : Value} (h : ∀ Φ P x, FrOk Φ fs → Ok Φ σ P → VR P v x → Lf Φ P (call c [x]) fun P' z => VR P' w z) (q : Q w σ) : Ac fs (.con c) [v] σ Q := Ac.lf (fun Φ P g xs F ok r rs => r.eC (rs.e1 fun x r => h Φ P x F ok r)) q
theorem ac2 {c : Value} {v' : AV} (h : ∀ Φ P x y, FrOk Φ fs → Ok Φ σ P → VR P v x → VR P v' y → Lf Φ P (call c [x, y]) fun P' z => VR P' w z) (q : Q w σ) : Ac fs (.con c) [v, v'] σ Q := Ac.lf (fun Φ P g xs F ok r rs => r.eC (rs.e2 fun x y r r' => h Φ P x y F ok r r')) q
theorem bu_lenS (h : s.length ≤ lim) : Q (.int s.length) σ → Ac fs (.con (.builtin "len")) [.str s] σ Q := ac1 fun Φ P x F ok r Q E k => r.eS fun t => PySem.P.len_str (Int.not_le.mpr (lim_63 h)) (k _ _ _ (fun _ _ e => e) (.int _ _))
theorem bu_len (h : SI σ v vs) (hl : vs.length ≤ lim) : Q (.int vs.length) σ → Ac fs (.con (.builtin "len")) [v] σ Q := ac1 fun Φ P x F ok r Q E k => by
  have fin : ∀ {its : Array Value}, VRs P vs its.toList → (its.size : Int) < 2 ^ 63 ∧ ∀ t tk, Q (.int its.size t) { P.s with toks := tk } := fun q => ⟨by rw [q.size]; exact lim_63 hl, fun t tk => k _ tk _ (fun _ _ e => e) (by rw [q.size]; exact .int _ _)⟩
  rcases h with h | ⟨vs⟩
  · exact h.e ok r fun l its hl q => call_len_list hl (fin q).1 ((fin q).2 _ _)
  · exact r.eT fun l its ⟨o, e1, e2, n, e3⟩ _ q => PyProof.Rows.len_tuple ⟨o, e1, e2, n, e3⟩ (fin q).1 ((fin q).2 _ _)
theorem bu_range : Q (.rng 0 i) σ → Ac fs (.con (.type "range")) [.int i] σ Q := ac1 fun Φ P x F ok r Q E k => r.eI fun t => call_range_1 (k _ _ _ (keep_push _ _) (.rng (IsRange.new P.s.heap 0 i 1 _ _ _) (im_push rfl)))
theorem bu_isl (h : LI σ v vs) : Q (.bool false) σ → Ac fs (.con (.builtin "isinstance")) [v, .con (.type "str")] σ Q := ac2 fun Φ P x y F ok r r' Q E k => r'.eC (h.e ok r fun l its ⟨o, e1, e2, _⟩ _ => IsiPair.list_str e1 e2 (k _ _ _ (fun _ _ e => e) (.bool _)))
theorem intItems_of {its : Array Value} (h : IntsAre its.toList ns) : ∃ xs : Array (Int × Tok), its = intItems xs ∧ xs.toList.map (·.1) = ns := by
  have : ∀ {l : List Value} {ns : List Int}, IntsAre l ns → ∃ xs : List (Int × Tok), l = xs.map (fun p => Value.int p.1 p.2) ∧ xs.map (·.1) = ns := by
    intro l ns h
    induction h with
    | nil => exact ⟨[], rfl, rfl⟩
    | cons n t _ ih => obtain ⟨xs, rfl, e⟩ := ih; exact ⟨(n, t) :: xs, rfl, by rw [List.map_cons, e]⟩
  obtain ⟨xs, e1, e2⟩ := this h
  exact ⟨xs.toArray, Array.toList_inj.mp (by rw [e1]; simp [intItems]), e2⟩
theorem none_keeps {h' : Heap} (hk : ∀ b o, P.s.heap.get? b = some o → h'.get? b = some o) : P.s.heap.get? h'.objs.size = none := by
  cases e : P.s.heap.get? h'.objs.size with
  | none => rfl
  | some o => exact absurd (Heap.lt_size (hk _ _ e)) (Nat.lt_irrefl _)
theorem bu_tuple (h : LI σ v vs) (hl : vs.length ≤ lim) : Q (.tup vs) σ → Ac fs (.con (.type "tuple")) [v] σ Q := ac1 fun Φ P x F ok r Q E k => h.e ok r fun l its hl' q => by
  refine call_tuple_list hl' (fun h' hk => ?_) (by rw [q.size]; exact lim_size hl)
  have k2 : ∀ b o, P.s.heap.get? b = some o → (h'.push { cls := .type "tuple", data := .seq its }).get? b = some o := fun b o e => keep_push _ _ b o (hk b o e)
  have g := Heap.get?_push_size h' (o := { cls := .type "tuple", data := .seq its }) rfl
  exact k _ P.s.toks _ k2 (.tup ⟨_, g, rfl, _, rfl⟩ (im_new (none_keeps hk) g) (q.le (up_le k2)))
theorem Ac.add {ob : AObj} (h : ∀ Φ P g xs (K : Value → Shared → Prop) E, FrOk Φ fs → Ok Φ σ P → VR P fv g → VRs P vs xs → (∀ a h' o', P.s.heap.objs.size ≤ a → (∀ b o, P.s.heap.get? b = some o → h'.get? b = some o) → h'.get? a = some o' → OP Φ.C P ob o' → ∀ tk, K (.ref a) { P.s with heap := h', toks := tk }) →
    wpAny Φ.M Φ.A (call g xs) K E P.s) (q : ∀ a, σ.H a = none → Q (.con (.ref a)) (σ.set a ob)) : Ac fs fv vs σ Q := fun Φ P g xs K E F ok r rs k => h Φ P g xs K E F ok r rs fun a h' o' ha hk e op tk =>
  let ⟨x, y⟩ := ok.add hk (get_size1 ha) (size_sys F.cx ok ha) e op; k _ _ _ _ y x (.con _) (q a (ok.dead (get_size1 ha)).1)
theorem bu_set : (∀ a, σ.H a = none → Q (.con (.ref a)) (σ.set a (.set []))) → Ac fs (.con (.type "set")) [] σ Q := Ac.add fun Φ P g xs K E F ok r rs k => r.eC (rs.eN (call_set_0 fun led =>
  k _ _ _ (Nat.le_refl _) (keep_push _ _) (Heap.get?_push_size _ rfl) ⟨#[], 0, _, ⟨rfl, rfl, rfl⟩, rfl, fun e he => absurd he List.not_mem_nil, (fun k => ⟨ff, fun ⟨e, he, _⟩ => absurd he List.not_mem_nil⟩), by decide, rfl, rfl⟩ _))
theorem bu_iter (h : σ.H l = some (.list vs)) : (∀ a, σ.H a = none → Q (.con (.ref a)) (σ.set a (.iter l 0))) → Ac fs (.con (.builtin "iter")) [.con (.ref l)] σ Q := Ac.add fun Φ P g xs K E F ok r rs k => r.eC (rs.e1 fun x r => r.eC (by
  obtain ⟨o, e, its, n, rfl, q⟩ := ok.obj h
  refine call_function_entry (by decide +kernel) (by decide +kernel) entry_iter (args_iter _) ?_
  unfold Builtin.«iter»
  refine wpAny_bind (m := someArgs "iter" 1 2 _) (wpAny_of_eq (a := [Value.ref l]) (by first | rfl | kernel_rfl!) ?_)
  exact wpAny_bind (wpAny_pyIter_list ⟨_, e, rfl, n, rfl⟩ (wpAny_pure ⟨_, rfl, k _ _ _ (Nat.le_refl _) (keep_push _ _) (Heap.get?_push_size _ rfl) rfl _⟩))))
theorem mg_list {m : Str} {id : String} (slot : Slot "list" m id) (hty : typeOf (.builtin id) = pure (.type "method_descriptor")) (h : σ.H l = some (.list vs)) : Mg (.con (.ref l)) m id σ := fun Φ P x pl K E C ok r k => by
  obtain ⟨o, e, its, n, rfl, q⟩ := ok.obj h
  obtain rfl : x = .ref l := r.inv
  exact getMethod_builtin ⟨_, e, rfl⟩ PySem.F.plainAttrs_list slot hty (fun a z => Value.ref.inj z ▸ ⟨_, e, rfl⟩) k
theorem mg_append (h : σ.H l = some (.list vs)) : Mg (.con (.ref l)) "append" "list.append" σ := mg_list PySem.F.slot_list_append PySem.F.type_list_append h
theorem mg_clear (h : σ.H l = some (.list vs)) : Mg (.con (.ref l)) "clear" "list.clear" σ := mg_list PySem.F.slot_list_clear PySem.F.type_list_clear h
theorem mg_get {es : List (Int × AV)} {ep : Nat} (h : σ.H l = some (.dictI es ep)) : Mg (.con (.ref l)) "get" "dict.get" σ := fun Φ P x pl K E C ok r k => by
  obtain ⟨o, e, kvs, hd, hk⟩ := ok.obj h
  obtain rfl : x = .ref l := r.inv
  have hm := (hd.at e).dictOf.mapOf
  exact getMethod_builtin hm.typeIs PySem.F.plainAttrs_dict PySem.F.slot_dict_get PySem.F.type_dict_get hm.noDict k
theorem mg_add {es : List Int} (h : σ.H l = some (.set es)) : Mg (.con (.ref l)) "add" "set.add" σ := fun Φ P x pl K E C ok r k => by
  obtain ⟨o, e, d, ep, t, h1, _⟩ := ok.obj h
  obtain rfl : x = .ref l := r.inv
  exact getMethod_builtin ⟨_, e, h1.1⟩ PySem.F.plainAttrs_set PySem.F.slot_set_add PySem.F.type_set_add (fun a z => Value.ref.inj z ▸ ⟨_, e, h1.2.1⟩) k
theorem mg_str {m : Str} {id : String} (slot : Slot "str" m id) (hty : typeOf (.builtin id) = pure (.type "method_descriptor")) : Mg (.str s) m id σ := fun Φ P x pl K E C ok r k => by
  obtain ⟨t, rfl⟩ := r.inv
  exact getMethod_builtin (typeIs_str _ _ _) PySem.F.plainAttrs_str slot hty nofun k
theorem Ac.set {ob ob' : AObj} (hH : σ.H l = some ob) (h : ∀ Φ P g xs (K : Value → Shared → Prop) E, FrOk Φ fs → Ok Φ σ P → VR P fv g → VRs P vs xs → (∀ h' o' z, Heap.SameBut l P.s.heap h' → h'.get? l = some o' → OP Φ.C P ob' o' → VR P w z → ∀ tk, K z { P.s with heap := h', toks := tk }) →
    wpAny Φ.M Φ.A (call g xs) K E P.s) (q : Q w (σ.set l ob')) : Ac fs fv vs σ Q := fun Φ P g xs K E F ok r rs k => h Φ P g xs K E F ok r rs fun h' o' z hs e op rz tk =>
  let ⟨x, y⟩ := ok.set hH hs e op; k _ _ _ _ y x (rz.le y) q
theorem mapSeq_at {h : Heap} {a : Addr} {its : Array Value} {n : Nat} (g : Array Value → Array Value) (e : h.get? a = some { cls := .type "list", data := .seq its n }) :
    ∃ n', (h.update a (Obj.mapSeq g)).get? a = some { cls := .type "list", data := .seq (g its) n' } := by
  obtain ⟨n', hm⟩ : ∃ n', Obj.mapSeq g { cls := .type "list", data := .seq its n } = { cls := .type "list", data := .seq (g its) n' } := ⟨_, by simp [Obj.mapSeq]; rfl⟩
  exact ⟨n', by rw [Heap.get?_update_self _ e (by rw [hm]; rfl), hm]⟩
theorem pushed {its : Array Value} {x : Value} (q : VRs P vs its.toList) (r : VR P v x) : VRs P (vs ++ [v]) (its.push x).toList := by
  rw [Array.toList_push]; exact q.append (.cons r .nil)
theorem m_append (h : σ.H l = some (.list vs)) (hl : vs.length < lim) : Q .none (σ.set l (.list (vs ++ [v]))) → Ac fs (.con (.builtin "list.append")) [.con (.ref l), v] σ Q := Ac.set h fun Φ P g xs K E F ok r rs k => r.eC (rs.e2 fun x y r r' => r.eC (by
  obtain ⟨o, e, its, n, rfl, q⟩ := ok.obj h
  exact wpAny_list_append_plain ⟨n, e⟩ (fun h' ⟨n', hp⟩ hs => k h' _ _ hs hp ⟨_, n', rfl, pushed q r'⟩ .none _) (by rw [q.size]; exact lim_size (Nat.le_of_lt hl))))
theorem ca_append (h : σ.H l = some (.list vs)) (hl : vs.length < lim) : Q .none (σ.set l (.list (vs ++ [v]))) → Ac fs (.bm "list.append" l) [v] σ Q := Ac.set h fun Φ P g xs K E F ok r rs k => r.eBm fun a ea _ => rs.e1 fun x r' => by
  obtain ⟨o, e, its, n, rfl, q⟩ := ok.obj h
  refine wpAny_call (call_bm ea (fun A Q E hq => bound_append e hq) (Code.quiet_builtin _ (by decide +kernel)) (codeAny_builtin entry_list_append ?_))
  show wpAny _ _ (updateSeq l (·.push _) >>= fun _ => ret .none) _ _ P.s
  refine wpAny_bind (wpAny_updateSeq e rfl (wpAny_pure ?_) (by rw [q.size]; exact lim_size (Nat.le_of_lt hl)) (by rw [Array.size_push, q.size]; exact Nat.succ_le_succ (lim_size (Nat.le_of_lt hl))))
  obtain ⟨n', hp⟩ := mapSeq_at (·.push x) e
  exact k _ _ _ (Heap.SameBut.update P.s.heap l _) hp ⟨_, n', rfl, pushed q r'⟩ .none _
theorem m_clear (h : σ.H l = some (.list vs)) (hl : vs.length ≤ lim) : Q .none (σ.set l (.list [])) → Ac fs (.con (.builtin "list.clear")) [.con (.ref l)] σ Q := Ac.set h fun Φ P g xs K E F ok r rs k => r.eC (rs.e1 fun x r => r.eC (by
  obtain ⟨o, e, its, n, rfl, q⟩ := ok.obj h
  refine call_meets PySem.F.slot_list_clear ⟨_, e, rfl⟩ PySem.F.entry_list_clear (PySem.F.args_list_clear_1 _) (AutoSeq1.list_clear_list_0 l its n (by rw [q.size]; exact lim_size hl)) ⟨e, ?_⟩
  obtain ⟨n', hm⟩ := mapSeq_at (fun _ => #[]) e
  exact k _ _ _ (Heap.SameBut.update P.s.heap l _) hm ⟨_, n', rfl, .nil⟩ .none _))
theorem m_add {es : List Int} (h : σ.H l = some (.set es)) (hl : es.length < 1000) : Q .none (σ.set l (.set (if es.contains i then es else i :: es))) → Ac fs (.con (.builtin "set.add")) [.con (.ref l), .int i] σ Q := Ac.set h fun Φ P g xs K E F ok r rs k => r.eC (rs.e2 fun x y r r' => r.eC (r'.eI fun t => by
  obtain ⟨o, e, d, ep, t, q1, q2, q3, q4, q5, q6, q7⟩ := ok.obj h
  refine call_set_add (intKind_is _ _ i _) rfl (show P.s.heap.SetOf (intKind Φ.C.prog Φ.C.w) l (fun k => es.contains k) es.length from ⟨o, d, ep, t, e, q1, q2, q3, q4, q5, q6, q7⟩) (by have : scanBound = 4096 := rfl; lia) fun h' hs z => ?_
  obtain ⟨o', d', ep', t', g, p1, p2, p3, p4, p5, p6, p7⟩ := z
  refine k h' _ _ hs g ⟨d', ep', t', p1, p2, p3, fun k' => ?_, p5, p6, ?_⟩ .none _
  · rw [← p4 k']
    by_cases hc : es.contains i = true
    · rw [if_pos hc]
      by_cases hk : k' = i
      · rw [hk]; exact ⟨fun _ => by simp, fun _ => hc⟩
      · simp [hk]
    · rw [if_neg hc, List.contains_cons]
      by_cases hk : k' = i
      · rw [hk]; simp
      · simp [hk]
  · rw [p7]; by_cases hc : es.contains i = true
    · rw [if_pos hc, if_pos hc]
    · rw [if_neg hc, if_neg hc]; rfl))
theorem get_at' {es : List (Int × AV)} {kvs : List (Int × Value)} {d : AV} {y : Value} (hk : KVR P es kvs) (r : VR P d y) : VR P ((es.lookup i).getD d) ((PySem.valueAt kvs i).getD y) := by
  rcases lookup_valueAt hk i with ⟨a, b⟩ | ⟨v', z, a, b, r'⟩
  · rw [a, b]; exact r
  · rw [a, b]; exact r'
theorem m_get {es : List (Int × AV)} {ep : Nat} (h : σ.H l = some (.dictI es ep)) : Q ((es.lookup i).getD .none) σ → Ac fs (.con (.builtin "dict.get")) [.con (.ref l), .int i] σ Q := ac2 fun Φ P x y F ok r r' Q E k => r.eC (r'.eI fun t => by
  obtain ⟨o, e, kvs, hd, hk⟩ := ok.obj h
  have hm := (hd.at e).dictOf.mapOf
  refine call_meetsIn PySem.F.slot_dict_get hm.typeIs PySem.F.entry_dict_get (PySem.F.args_dict_get_2 _ _) (meets_dict_get (intKind Φ.C.prog Φ.C.w) l (intKind_is _ _ i _) (ok.noSys h)) ⟨_, hm, ?_⟩
  exact k _ _ _ (fun _ _ e => e) ((get_at' hk .none).le (up_le fun _ _ e => e)))
theorem mg_join : Mg (.str s) "join" "str.join" σ := mg_str PySem.F.slot_str_join PySem.F.type_str_join
theorem mg_rstrip : Mg (.str s) "rstrip" "str.rstrip" σ := mg_str PySem.F.slot_str_rstrip PySem.F.type_str_rstrip
theorem mg_lstrip : Mg (.str s) "lstrip" "str.lstrip" σ := mg_str PySem.F.slot_str_lstrip PySem.F.type_str_lstrip
theorem mg_startswith : Mg (.str s) "startswith" "str.startswith" σ := mg_str PySem.F.slot_str_startswith PySem.F.type_str_startswith
theorem mg_replace : Mg (.str s) "replace" "str.replace" σ := mg_str PySem.F.slot_str_replace PySem.F.type_str_replace
theorem mg_translate : Mg (.str s) "translate" "str.translate" σ := mg_str PySem.F.slot_str_translate PySem.F.type_str_translate
theorem strValues_of (r : VRs P (ss.map .str) xs) : ∃ l : List (Str × Tok), xs = strValues l ∧ l.map (·.1) = ss := by
  induction ss generalizing xs with
  | nil => exact ⟨[], r.inv, rfl⟩
  | cons a l ih =>
    obtain ⟨x, ys, rfl, r1, r2⟩ := r.inv
    obtain ⟨t, rfl⟩ := r1.inv
    obtain ⟨m, rfl, h⟩ := ih r2
    exact ⟨(a, t) :: m, rfl, congrArg (a :: ·) h⟩
theorem m_join (h : LI σ v (ss.map .str)) (hl : (ss.map (·.length)).sum + ss.length ≤ lim) (h2 : s.length ≤ 16) : Q (.str (Txt.join s ss)) σ → Ac fs (.con (.builtin "str.join")) [.str s, v] σ Q := ac2 fun Φ P x y F ok r r' Q E k => r.eS fun t => h.e ok r' fun l its hl' q => by
  obtain ⟨lst, hz, ht⟩ := strValues_of q
  refine SC.join (D := l) (l := lst) (by rw [← hz]; exact hl') ht ?_ fun t' tk => k _ tk _ (fun _ _ e => e) (.str _ _)
  unfold JoinOk
  rw [StrLaws.joinTotal]
  unfold lim at hl
  have h3 : ss.length * s.length ≤ ss.length * 16 := Nat.mul_le_mul_left _ h2
  rw [show tooLong ((ss.map (·.length)).sum + ss.length * s.length) = false by unfold tooLong; rw [sizeLine_eq]; exact decide_eq_false (by lia)]; rfl
theorem m_rstrip (h : s.length ≤ lim) : Q (.str (Txt.rstrip s)) σ → Ac fs (.con (.builtin "str.rstrip")) [.str s] σ Q := ac1 fun Φ P x F ok r Q E k => r.eS fun t => SC.rstrip (fun t' tk => k _ tk _ (fun _ _ e => e) (.str _ _)) (lim_size h)
theorem m_lstrip (h : s.length ≤ lim) : Q (.str (Txt.lstrip s)) σ → Ac fs (.con (.builtin "str.lstrip")) [.str s] σ Q := ac1 fun Φ P x F ok r Q E k => r.eS fun t => SC.lstrip (fun t' tk => k _ tk _ (fun _ _ e => e) (.str _ _)) (lim_size h)
theorem m_startswith : Q (.bool (Txt.startswith s t)) σ → Ac fs (.con (.builtin "str.startswith")) [.str s, .str t] σ Q := ac2 fun Φ P x y F ok r r' Q E k => r.eS fun _ => r'.eS fun _ => SC.startswith (k _ P.s.toks _ (fun _ _ e => e) (.bool _))
theorem m_translate {c : Nat} (hc : c < 128) : Q (.str (if special c then ⟨#[92, c]⟩ else ⟨#[c]⟩)) σ → Ac fs (.con (.builtin "str.translate")) [.str ⟨#[c]⟩, .con (.ref 101)] σ Q := ac2 fun Φ P x y F ok r r' Q E k => r.eS fun _ => r'.eC (by
  obtain ⟨fn, ⟨o, es, ep, ho, hx⟩, ht⟩ := F.cx.re.tab
  have hm : P.s.heap.MapOf (intKind Φ.C.prog Φ.C.w) 101 fn := ⟨o, es, ep, ok.keep _ _ ho, hx⟩
  have hsys : ((101 : Addr) == sysModules) = false := by decide +kernel
  by_cases hs : special c = true
  · rw [if_pos hs] at k
    obtain ⟨u, hu⟩ := (ht c hc).1 hs
    exact translate_hit hc hsys hm hu fun t' tk => k _ tk _ (fun _ _ e => e) (.str _ _)
  · rw [if_neg hs] at k
    exact translate_keep hc hsys F.handled hm ((ht c hc).2 (Bool.eq_false_iff.mpr hs)) fun h' t' tk hk => k h' tk _ hk (.str _ _))
end
end Mine
end
section
namespace Mine
open PySem PySem.W PyProof.Rows PySem.Calls PySem.SeqAt
noncomputable abbrev Own := Addr → Option Obj
noncomputable def Fm.hide (Φ : Fm) (own : Own) : Fm := { Φ with K := fun a => ((own a).map .raw).or (Φ.K a) }
noncomputable def Has (h : Heap) (own : Own) : Prop := ∀ a o, own a = some o → h.get? a = some o
noncomputable def Off (own : Own) (h h' : Heap) : Prop := ∀ b o, own b = none → h.get? b = some o → h'.get? b = some o
noncomputable def Fre (Φ : Fm) (own : Own) : Prop := ∀ a o, own a = some o → Φ.K a = none ∧ a ≠ Φ.env.locals ∧ a ≠ sysModules
noncomputable def Same (own own' : Own) : Prop := ∀ a, own a = none ↔ own' a = none
noncomputable def one (I : Addr) (o : Obj) : Own := fun a => if a = I then some o else none
noncomputable abbrev Pt.off (P : Pt) (h : Heap) (tk : Nat) (own : Own) : Pt := P.up h tk fun a => own a ≠ none
section
variable {Φ : Fm} {fs : FS} {σ : St} {P P' : Pt} {ow ow' : Own} {h' : Heap} {tk : Nat} {a I : Addr} {o : Obj}
theorem hide_none (h : ow a = none) : (Φ.hide ow).K a = Φ.K a := by unfold Fm.hide; dsimp only; rw [h]; rfl
theorem hide_some (h : ow a = some o) : (Φ.hide ow).K a = some (.raw o) := by unfold Fm.hide; dsimp only; rw [h]; rfl
theorem Fre.K {ob : AObj} (h : Fre Φ ow) (e : Φ.K a = some ob) : (Φ.hide ow).K a = some ob := by
  cases q : ow a with
  | none => rw [hide_none q]; exact e
  | some o => exact son (e.symm.trans (h a o q).1)
theorem none_or (x : Option Obj) : x = none ∨ ∃ o, x = some o := by cases x with | none => exact .inl rfl | some o => exact .inr ⟨o, rfl⟩
theorem FrOk.hide (F : FrOk Φ fs) (h : Fre Φ ow) : FrOk (Φ.hide ow) fs := { F with
  fk := fun env he => let ⟨a, L, b, c, d⟩ := F.fk env he; ⟨a, L, b, c, d.imp id fun ⟨ns, e⟩ => ⟨ns, h.K e⟩⟩
  tabs := fun p hp => let ⟨ps, e⟩ := F.tabs p hp; ⟨ps, h.K e⟩
  kl := (hide_none (by
    rcases none_or (ow Φ.env.locals) with q | ⟨o, q⟩
    · exact q
    · exact absurd rfl (h _ o q).2.1)).trans F.kl }
theorem Ok.hideH (ok : Ok (Φ.hide ow) σ P) (h : ow a = some o) : σ.H a = none := by
  cases q : σ.H a with
  | none => rfl
  | some ob => exact son ((hide_some (Φ := Φ) h).symm.trans (ok.dj a ob q).1)
theorem Ok.notIm (ok : Ok (Φ.hide ow) σ P) (hL : Fre Φ ow) (i : P.im a) : ow a = none := by
  rcases none_or (ow a) with h | ⟨o, h⟩
  · exact h
  · exact absurd i (ok.m.objs a (.raw o) (by
      unfold Fm.map
      rw [if_neg (show ¬ a = (Φ.hide ow).env.locals from (hL a o h).2.1), ok.hideH h, hide_some h]; rfl)).1
theorem Ok.offLe (ok : Ok (Φ.hide ow) σ P) (hL : Fre Φ ow) (k : Off ow P.s.heap h') : Le P (P.off h' tk ow) := ⟨fun i e => k _ _ (ok.notIm hL i) e, fun i => .inl i⟩
theorem Ok.has (ok : Ok (Φ.hide ow) σ P) (hL : Fre Φ ow) : Has P.s.heap ow := fun a o e => by
  obtain ⟨_, _, o', e', q⟩ := ok.m.objs a (.raw o) (by
    unfold Fm.map
    rw [if_neg (show ¬ a = (Φ.hide ow).env.locals from (hL a o e).2.1), ok.hideH e, hide_some e]; rfl)
  exact (show o' = o from q) ▸ e'
theorem Ok.own (ok : Ok (Φ.hide ow) σ P) (hL : Fre Φ ow) (k : Off ow P.s.heap h') (hs : Has h' ow') (hm : Same ow ow') : Ok (Φ.hide ow') σ (P.off h' tk ow) ∧ Le P (P.off h' tk ow) := by
  have le : Le P (P.off h' tk ow) := ok.offLe hL k
  refine ⟨⟨⟨fun b o e => ⟨le.keep (ok.m.base b o e).2 (ok.m.base b o e).1, .inl (ok.m.base b o e).2⟩, fun b i => i.elim (fun i => (ok.m.al b i).imp fun o e => le.keep i e) fun i => i.2.1, fun b ob e => ?_, ok.m.gens, ok.m.os⟩, fun b ob e => ?_⟩, le⟩
  · rcases none_or (ow b) with h | ⟨o, h⟩
    · have e' : (Φ.hide ow).map σ b = some ob := by
        unfold Fm.map at e ⊢
        rw [hide_none h]; rw [hide_none ((hm b).mp h)] at e; exact e
      obtain ⟨x, y, o, z, w⟩ := ok.m.objs b ob e'
      exact ⟨fun i => i.elim x fun i => nos (i.1.symm.trans z), y, o, k b o h z, w.le le⟩
    · rcases none_or (ow' b) with h' | ⟨o', h'⟩
      · exact son (h.symm.trans ((hm b).mpr h'))
      · have hH : σ.H b = none := ok.hideH h
        unfold Fm.map at e
        rw [if_neg (show ¬ b = (Φ.hide ow').env.locals from (hL b o h).2.1), hH, hide_some h'] at e
        have := smj (show some (AObj.raw o') = some ob from e)
        subst this
        exact ⟨fun i => i.elim (fun i => son (h.symm.trans (ok.notIm hL i))) fun i => i.2.2 (show ow b ≠ none from fun z => son (h.symm.trans z)), (hL b o h).2.2, o', hs b o' h', rfl⟩
  · have := ok.dj b ob e
    rcases none_or (ow b) with h | ⟨o, h⟩
    · rw [hide_none ((hm b).mp h)]; rw [hide_none h] at this; exact this
    · exact son ((hide_some (Φ := Φ) h).symm.trans this.1)
theorem Ok.hideNew (ok : Ok Φ σ P) (F : CxOk Φ.C) (kp : ∀ b o, P.s.heap.get? b = some o → h'.get? b = some o) (hs : Has h' ow) (hn : ∀ a o, ow a = some o → P.s.heap.objs.size ≤ a) :
    Ok (Φ.hide ow) σ (P.off h' tk ow) ∧ Le P (P.off h' tk ow) ∧ Fre Φ ow := by
  have dead : ∀ a o, ow a = some o → P.s.heap.get? a = none := fun a o e => get_size1 (hn a o e)
  have fr : Fre Φ ow := fun a o e => let ⟨x, y, z⟩ := ok.dead (dead a o e); ⟨y, z, size_sys F ok (hn a o e)⟩
  refine ⟨⟨ok.m.up kp fun b ob e => ?_, fun b ob e => ?_⟩, up_le kp, fr⟩
  · rcases none_or (ow b) with h | ⟨o, h⟩
    · unfold Fm.map at e ⊢
      rw [hide_none h] at e; exact .inl e
    · unfold Fm.map at e
      rw [if_neg (show ¬ b = (Φ.hide ow).env.locals from (fr b o h).2.1), (ok.dead (dead b o h)).1, hide_some h] at e
      have := smj (show some (AObj.raw o) = some ob from e)
      subst this
      exact .inr ⟨(show ow b ≠ none from fun z => son (h.symm.trans z)), dead b o h, (fr b o h).2.2, o, hs b o h, rfl⟩
  · rcases none_or (ow b) with h | ⟨o, h⟩
    · rw [hide_none h]; exact ok.dj b ob e
    · exact son (e.symm.trans (ok.dead (dead b o h)).1)
theorem Ok.unhide (ok : Ok (Φ.hide ow) σ P) (fr : Fre Φ ow) : Ok Φ σ P := by
  refine ⟨ok.m.sub fun b ob e => ?_, fun b ob e => ?_⟩
  · unfold Fm.map at e ⊢
    rcases none_or (ow b) with h | ⟨o, h⟩
    · rw [hide_none h]; exact e
    · rw [if_neg (fr b o h).2.1, ok.hideH h, (fr b o h).1] at e
      exact nos e
  · have := ok.dj b ob e
    rcases none_or (ow b) with h | ⟨o, h⟩
    · rw [hide_none h] at this; exact this
    · exact son ((hide_some (Φ := Φ) h).symm.trans this.1)
theorem Ok.leave (ok : Ok (Φ.hide ow) σ P) (fr : Fre Φ ow) (k : Off ow P.s.heap h') : Ok Φ σ (P.off h' tk ow) ∧ Le P (P.off h' tk ow) := by
  have le : Le P (P.off h' tk ow) := ok.offLe fr k
  have u := ok.unhide fr
  refine ⟨⟨⟨fun b o e => ⟨le.keep (ok.m.base b o e).2 (ok.m.base b o e).1, .inl (ok.m.base b o e).2⟩, fun b i => i.elim (fun i => (ok.m.al b i).imp fun o e => le.keep i e) fun i => i.2.1, fun b ob e => ?_, ok.m.gens, ok.m.os⟩, u.dj⟩, le⟩
  have hb : ow b = none := by
    rcases none_or (ow b) with h | ⟨o, h⟩
    · exact h
    · unfold Fm.map at e
      rw [if_neg (fr b o h).2.1, ok.hideH h, (fr b o h).1] at e
      exact nos e
  obtain ⟨x, y, o, z, w⟩ := u.m.objs b ob e
  exact ⟨fun i => i.elim x fun i => nos (i.1.symm.trans z), y, o, k b o hb z, w.le le⟩
theorem Fre.same (fr : Fre Φ ow) (h : Same ow ow') : Fre Φ ow' := fun a o e => by
  rcases none_or (ow a) with q | ⟨o', q⟩
  · exact nos (((h a).mp q).symm.trans e)
  · exact fr a o' q
end
noncomputable def notOwner (T : String) : Bool := !(["enumerate", "zip", "dict_itemiterator", "dict_reverseitemiterator", "odict_iterator", "itertools.zip_longest", "itertools.pairwise"].contains T)
structure Itr (P0 : Pt) (t : Expr) (I : Addr) (vs : List AV) (dom : St → Prop) (S : Nat → Own → Prop) : Prop where
  draw : ∀ {Φ : Fm} {P : Pt} {σ : St} {i : Nat} {own : Own} {Q : Option Value → Shared → Prop} {E : Value → Shared → Prop}, Φ.A.handled = none → Le P0 P → Ok (Φ.hide own) σ P → Fre Φ own → S i own → dom σ → i ≤ vs.length →
    (vs[i]? = none → ∀ h' tk, Off own P.s.heap h' → Q none { P.s with heap := h', toks := tk }) →
    (∀ v, vs[i]? = some v → ∀ x s₁, (∀ R E, (∀ h' tk own', Off own P.s.heap h' → Has h' own' → Same own own' → S (i + 1) own' → VR (P.off h' tk own) v x → R () { P.s with heap := h', toks := tk }) → wpAny Φ.M Φ.A (letOwnedTupleGo t (.ref I) x) R E s₁) → Q (some x) s₁) →
    wpAny Φ.M Φ.A (pyNext (.ref I)) Q E P.s
  self : ∀ {Φ : Fm} {P : Pt} {σ : St} {i : Nat} {own : Own} {Q E : Value → Shared → Prop}, Φ.A.handled = none → Le P0 P → Ok (Φ.hide own) σ P → Fre Φ own → S i own → Q (.ref I) P.s → wpAny Φ.M Φ.A (pyIter (.ref I)) Q E P.s
noncomputable def Wi (fs : FS) (t e : Expr) (σ : St) (Q : List AV → (St → Prop) → St → Prop) : Prop :=
  (∀ env x, foldedSetIterable e env x = pure x) ∧ ∀ Φ P (K : Value → Shared → Prop) E, FrOk Φ fs → Ok Φ σ P →
    (∀ P' I own S vs dom σ', Le P P' → Ok (Φ.hide own) σ' P' → Fre Φ own → Itr P' t I vs dom S → S 0 own → Q vs dom σ' → K (.ref I) P'.s) →
    wpAny Φ.M Φ.A (eval e Φ.env) (fun x s₁ => wpAny Φ.M Φ.A (pyIter x) K E s₁) E P.s
theorem letOwned_other {prog : Program} {w : World} {A : Around} {s : Shared} {E : Value → Shared → Prop} {t : Expr} {I : Addr} {v : Value} {o : Obj} {T : String} {Q : Unit → Shared → Prop} (ho : s.heap.get? I = some o) (hc : o.cls = .type T) (hT : notOwner T = true) (h : Q () s) :
    wpAny (model prog w) A (letOwnedTupleGo t (.ref I) v) Q E s := by
  have ht : letOwnedTupleGo t (.ref I) v = pure () ∨ letOwnedTupleGo t (.ref I) v = letOwnedTupleGo (.List [] default) (.ref I) v := by
    cases t <;> first | exact .inl rfl | exact .inr rfl
  rcases ht with ht | ht
  · rw [ht]; exact wpAny_pure h
  rw [ht]
  have hcond : ∀ (vs : Array Value) (a : Addr), ¬ ((["enumerate", "zip", "dict_itemiterator", "dict_reverseitemiterator", "odict_iterator", "itertools.zip_longest", "itertools.pairwise"].contains T && vs[0]? == some (rawInt a)) = true) := fun vs a => by
    unfold notOwner at hT
    rw [Bool.not_eq_true'] at hT
    rw [hT, Bool.false_and]; exact Bool.false_ne_true
  cases v with
  | ref a =>
    refine wpAny_bind (wpAny_load ho ?_)
    rw [hc]
    cases o.data with
    | fields vs => exact wp_no (hcond vs a) (wpAny_pure h)
    | _ => exact wpAny_pure h
  | _ => exact wpAny_pure h
section
variable {Φ : Fm} {fs : FS} {σ : St} {P P0 : Pt} {v : AV} {x : Value} {vs : List AV} {l I : Addr} {t e : Expr} {Q : List AV → (St → Prop) → St → Prop} {dom : St → Prop}
theorem one_at {o : Obj} {a : Addr} {o' : Obj} (h : one I o a = some o') : a = I ∧ o = o' := by
  unfold one at h
  by_cases hc : a = I
  · rw [if_pos hc] at h; exact ⟨hc, smj h⟩
  · rw [if_neg hc] at h; exact nos h
theorem one_same {o o' : Obj} : Same (one I o) (one I o') := fun a => by unfold one; by_cases h : a = I <;> simp [h]
theorem one_I {o : Obj} : one I o I = some o := if_pos rfl
theorem ne_I {o : Obj} {b : Addr} (h : one I o b = none) : b ≠ I := fun z => son (one_I.symm.trans (z ▸ h))
theorem one_has {o : Obj} {h : Heap} (e : h.get? I = some o) : Has h (one I o) := fun a o' e' => let ⟨x, y⟩ := one_at e'; x ▸ y ▸ e
theorem itr_list (h : ∀ (Φ : Fm) P σ own, Le P0 P → Ok (Φ.hide own) σ P → dom σ → ∃ its, P.s.heap.IsList l its ∧ VRs P vs its.toList) : Itr P0 t I vs dom fun i own => ∃ o, own = one I o ∧ o.cls = .type "list_iterator" ∧ o.data = .fields #[.ref l, rawInt i] := by
  refine ⟨?_, fun hh le ok fr ⟨oI, e, hc, hd⟩ q => wpAny_pyIter_listiter ⟨oI, ok.has fr I oI (e ▸ one_I), hc, hd⟩ q⟩
  rintro Φ P σ i own Q E hh le ok fr ⟨oI, rfl, hc, hd⟩ hdom hi q0 q1
  obtain ⟨its, hl, rs⟩ := h Φ P σ _ le ok hdom
  have st : P.s.heap.IsListIter I l i := ⟨oI, ok.has fr I oI one_I, hc, hd⟩
  rcases rs.either i with ⟨a, b⟩ | ⟨v, x, a, b, r⟩
  · exact wpAny_pyNext_list_end hh st hl (by rw [← Array.getElem?_toList]; exact b) fun h' he' => q0 a h' P.s.toks fun b o hb e => he' b o (ne_I hb) e
  · refine wpAny_pyNext_list_item st hl (by rw [← Array.getElem?_toList]; exact b) fun h' hit' hs' => ?_
    obtain ⟨o', g1, g2, g3⟩ := hit'
    have off : Off (one I oI) P.s.heap h' := fun b o hb e => (hs'.2 b (ne_I hb)).trans e
    exact q1 v a x _ fun R E k => letOwned_other (s := { P.s with heap := h' }) g1 g2 (by decide) (k h' P.s.toks (one I o') off (one_has g1) one_same ⟨o', rfl, g2, g3⟩ (r.le (ok.offLe fr off)))
theorem itr_walks {fp : List Addr} {n : Nat} {Pv : Nat → Value → Prop} {St : Nat → Heap → Prop} {SO : Nat → Obj → Prop} (hn : n = vs.length) (W : ∀ Φ : Fm, Φ.A.handled = none → Walks Φ.C.prog Φ.C.w Φ.A I fp [I] n Pv St)
    (st1 : ∀ P i o, Le P0 P → P.s.heap.get? I = some o → SO i o → St i P.s.heap) (st2 : ∀ i h, St i h → ∃ o T, h.get? I = some o ∧ SO i o ∧ o.cls = .type T ∧ notOwner T = true) (hv : ∀ j v, Pv j v → ∃ a, vs[j]? = some a ∧ VR P0 a v) :
    Itr P0 t I vs dom fun i own => ∃ o, own = one I o ∧ SO i o := by
  refine ⟨?_, fun {Φ P σ i own Q E} hh le ok fr ⟨oI, e, so⟩ q => (W Φ hh).self i P.s Q E (st1 P i oI le (ok.has fr I oI (e ▸ one_I)) so) q⟩
  rintro Φ P σ i own Q E hh le ok fr ⟨oI, rfl, so⟩ hdom hi q0 q1
  subst hn
  have st := st1 P i oI le (ok.has fr I oI one_I) so
  have nI : ∀ {b}, one I oI b = none → b ∉ [I] := fun h z => ne_I h (List.mem_singleton.mp z)
  by_cases hlt : i < vs.length
  · refine (W Φ hh).item i P.s _ _ hlt st fun v h' tk hP st' hk => ?_
    obtain ⟨o', T, g1, g2, g3, g4⟩ := st2 _ _ st'
    have off : Off (one I oI) P.s.heap h' := fun b o hb e => hk b o (nI hb) e
    obtain ⟨a, ea, ra⟩ := hv i v hP
    exact q1 a ea v _ fun R E k => letOwned_other (s := { P.s with heap := h', toks := tk }) g1 g3 g4 (k h' tk (one I o') off (one_has g1) one_same ⟨o', rfl, g2⟩ ((ra.le le).le (ok.offLe fr off)))
  · have hin : i = vs.length := Nat.le_antisymm hi (Nat.le_of_not_lt hlt)
    refine (W Φ hh).done P.s _ _ (hin ▸ st) fun h' tk hk => ?_
    exact q0 (List.getElem?_eq_none (Nat.le_of_not_lt hlt)) h' tk fun b o hb e => hk b o (nI hb) e
theorem i_plain (he : ∀ env x, foldedSetIterable e env x = pure x) (h : We fs e σ fun v s => ∃ vs dom, Q vs dom s ∧ ∀ Φ P x (K : Value → Shared → Prop) E, CxOk Φ.C → Ok Φ s P → VR P v x →
    (∀ P' I own S, Le P P' → Ok (Φ.hide own) s P' → Fre Φ own → Itr P' t I vs dom S → S 0 own → K (.ref I) P'.s) → wpAny Φ.M Φ.A (pyIter x) K E P.s) : Wi fs t e σ Q :=
  ⟨he, fun Φ P K E F ok k => h Φ P _ E F ok fun P1 x v σ1 l1 ok1 r1 ⟨vs, dom, q, hi⟩ => hi Φ P1 x K E F.cx ok1 r1 fun P2 I own S l2 ok2 fr it s0 => k P2 I own S vs dom σ1 (l1.trans l2) ok2 fr it s0 q⟩
noncomputable def Sr (t : Expr) (v : AV) (s : St) (vs : List AV) (dom : St → Prop) : Prop := ∀ Φ P x (K : Value → Shared → Prop) E, CxOk Φ.C → Ok Φ s P → VR P v x →
    (∀ P' I own S, Le P P' → Ok (Φ.hide own) s P' → Fre Φ own → Itr P' t I vs dom S → S 0 own → K (.ref I) P'.s) → wpAny Φ.M Φ.A (pyIter x) K E P.s
theorem hide_push {s : St} (F : CxOk Φ.C) (ok : Ok Φ s P) {o : Obj} (hf : o.isFreed = false) : let P' := P.off (P.s.heap.push o) P.s.toks (one P.s.heap.objs.size o); Ok (Φ.hide (one P.s.heap.objs.size o)) s P' ∧ Le P P' ∧ Fre Φ (one P.s.heap.objs.size o) :=
  ok.hideNew F (keep_push _ _) (one_has (Heap.get?_push_size _ hf)) fun a o' e => (one_at e).1 ▸ Nat.le_refl _
theorem sr_lst {s : St} : Sr t (.lst vs) s vs fun _ => True := fun Φ P x K E F ok r k => r.eL fun l its hl im rs =>
  have h := hide_push F ok (o := { cls := .type "list_iterator", data := .fields #[.ref l, rawInt 0] }) rfl
  wpAny_pyIter_list hl (k _ _ _ _ h.2.1 h.1 h.2.2 (itr_list fun Φ P σ own le ok _ => ⟨its, isList_le (h.2.1.trans le) im hl, rs.le (h.2.1.trans le)⟩) ⟨_, rfl, rfl, rfl⟩)
theorem sr_ref {s : St} (h : s.H l = some (.list vs)) : Sr t (.con (.ref l)) s vs fun σ => σ.H l = some (.list vs) := fun Φ P x K E F ok r k => r.eC (by
  obtain ⟨o, e, its, n, rfl, q⟩ := ok.obj h
  have h := hide_push F ok (o := { cls := .type "list_iterator", data := .fields #[.ref l, rawInt 0] }) rfl
  exact wpAny_pyIter_list (items := its) ⟨_, e, rfl, n, rfl⟩ (k _ _ _ _ h.2.1 h.1 h.2.2 (itr_list fun Φ P σ own le ok hd => let ⟨o, e, its, n, d, q⟩ := ok.obj hd; ⟨its, ⟨o, e, congrArg Obj.cls d, n, congrArg Obj.data d⟩, q⟩) ⟨_, rfl, rfl, rfl⟩))
theorem either_at {its : Array Value} {Pv : Pt} (rs : VRs Pv vs its.toList) {j : Nat} {v : Value} (hj : its[j]? = some v) : ∃ a, vs[j]? = some a ∧ VR Pv a v := by
  rcases rs.either j with ⟨a1, a2⟩ | ⟨a, y, a1, a2, a3⟩
  · rw [Array.getElem?_toList, hj] at a2; exact son a2
  · rw [Array.getElem?_toList, hj] at a2; exact ⟨a, a1, smj a2 ▸ a3⟩
theorem sr_tup {s : St} : Sr t (.tup vs) s vs fun _ => True := fun Φ P x K E F ok r k => r.eT fun l its hl im rs => by
  have h := hide_push F ok (o := { cls := .type "tuple_iterator", data := .fields #[.ref l, rawInt 0] }) rfl
  obtain ⟨o, e1, e2⟩ := id hl
  have ne : l ≠ P.s.heap.objs.size := Nat.ne_of_lt (Heap.lt_size e1)
  refine wpAny_pyIter_tuple hl (k _ _ _ _ h.2.1 h.1 h.2.2 (itr_walks (SO := fun i o => o.cls = .type "tuple_iterator" ∧ o.data = .fields #[.ref l, rawInt i]) rs.size (fun Φ hA => Walks.tuple hA _ l ne its) (fun P i o le g so => ?_) (fun i h st => ?_) fun j v hj => ?_) ⟨_, rfl, rfl, rfl⟩)
  · exact ⟨⟨o, g, so⟩, isTuple_le (h.2.1.trans le) im hl⟩
  · obtain ⟨⟨o, g, c, d⟩, _⟩ := st; exact ⟨o, _, g, ⟨c, d⟩, c, by decide⟩
  · exact either_at (rs.le h.2.1) hj
theorem rangeSize_one (a b : Int) : Builtin.Range.rangeSize a b 1 = ((b - a).toNat : Int) := by
  unfold Builtin.Range.rangeSize
  rw [if_pos (by decide)]
  split
  · rw [Int.ediv_one]; lia
  · lia
theorem small_lim {b : Nat} (h : b ≤ lim) : Builtin.Range.small 0 b 1 = true := by
  unfold lim at h
  unfold Builtin.Range.small
  rw [rangeSize_one]
  have e : ∀ z : Int, -1000000 ≤ z → z ≤ 2000001 → Builtin.Range.rangeFitsLong z = true := fun z h h' => by
    unfold Builtin.Range.rangeFitsLong
    rw [Bool.and_eq_true]
    exact ⟨decide_eq_true (by lia), decide_eq_true (by lia)⟩
  rw [e 0 (by lia) (by lia), e b (by lia) (by lia), e 1 (by decide) (by decide), e (((b : Int) - 0).toNat : Int) (by lia) (by lia)]
  simp only [Bool.true_and, Bool.and_true]
  rw [if_pos (by decide), e _ (by lia) (by lia), Bool.or_true]
noncomputable def nats (n : Nat) : List AV := (List.range n).map fun (k : Nat) => AV.int (k : Int)
theorem sr_rng {s : St} {n : Nat} (hn : n ≤ lim) : Sr t (.rng 0 n) s (nats n) fun _ => True := fun Φ P x K E F ok r k => r.eR fun r0 _ _ _ hr _ => by
  refine wpAny_pyIter_range hr (small_lim hn) ?_
  rw [rangeSize_one, Int.sub_zero, Int.toNat_natCast]
  have h := hide_push F ok (o := { cls := .type "range_iterator", data := .fields #[rawInt 0, rawInt n, rawInt 1] }) rfl
  have hlen : n = (nats n).length := by unfold nats; rw [List.length_map, List.length_range]
  refine k _ _ _ _ h.2.1 h.1 h.2.2 (itr_walks (SO := fun i o => o = { cls := .type "range_iterator", data := .fields #[rawInt (0 + (i : Nat) * 1), rawInt ((n : Int) - (i : Nat)), rawInt 1] }) hlen (fun Φ hA => (Walks.range hA P.s.heap.objs.size 0 1 n).bound) (fun P i o le g so => g.trans (congrArg some so))
    (fun i h st => ⟨_, _, st, rfl, rfl, by decide⟩) fun j v hj => ?_) ⟨_, rfl, by rw [show (0 : Int) + ((0 : Nat) : Int) * 1 = 0 from rfl, show (n : Int) - ((0 : Nat) : Int) = n from Int.sub_zero _]⟩
  obtain ⟨hj1, t, rfl⟩ := hj
  exact ⟨.int (j : Int), by unfold nats; rw [List.getElem?_map, List.getElem?_range hj1]; rfl, by rw [Int.mul_one, Int.zero_add]; exact .int _ _⟩
theorem keys_at {es : List (Int × AV)} {kvs : List (Int × Value)} (h : es.map (·.1) = kvs.map (·.1)) (i : Nat) : (es[i]? = none ∧ kvs[i]? = none) ∨ ∃ p q, es[i]? = some p ∧ kvs[i]? = some q ∧ q.1 = p.1 := by
  have h1 := congrArg (·[i]?) h
  simp only [List.getElem?_map] at h1
  cases he : es[i]? with
  | none => rw [he] at h1; exact .inl ⟨rfl, Option.map_eq_none_iff.mp h1.symm⟩
  | some p => rw [he] at h1; exact let ⟨q, hq, e⟩ := Option.map_eq_some_iff.mp h1.symm; .inr ⟨p, q, rfl, hq, e⟩
theorem sr_keys {s : St} {es : List (Int × AV)} {ep : Nat} (h : s.H l = some (.dictI es ep)) : Sr t (.con (.ref l)) s (es.map fun p => .int p.1) fun σ => σ.H l = some (.dictI es ep) := fun Φ P x K E F ok r k => r.eC (by
  obtain ⟨o, e, kvs, hd, hk⟩ := ok.obj h
  have hp := hide_push F ok (o := { cls := .type "dict_keyiterator", data := .fields #[.ref l, .int 0 0, .int kvs.length 0, .int ep 0] }) rfl
  refine wpAny_pyIter_dict (ok.noSys h) (hd.at e) (k _ _ _ (fun i own => ∃ o, own = one P.s.heap.objs.size o ∧ o.cls = .type "dict_keyiterator" ∧ o.data = .fields #[.ref l, .int i 0, .int es.length 0, .int ep 0]) hp.2.1 hp.1 hp.2.2 ?_ ⟨_, rfl, rfl, by rw [← len_keys hk.1]; rfl⟩)
  refine ⟨?_, fun hh le ok fr ⟨oI, e, hc, hd⟩ q => wpAny_pyIter_keyiter ⟨oI, ok.has fr _ oI (e ▸ one_I), hc, hd⟩ q⟩
  rintro Φ P σ i own Q E hh le ok fr ⟨oI, rfl, hc, hd⟩ hdom hi q0 q1
  obtain ⟨o, e, kvs, hD, hk⟩ := ok.obj hdom
  have st := (⟨oI, ok.has fr _ oI one_I, hc, hd⟩ : P.s.heap.IsKeyIter _ l i es.length ep)
  rw [← len_keys hk.1] at st
  rcases keys_at hk.1 i with ⟨a, b⟩ | ⟨p, q, a, b, c⟩
  · exact wpAny_pyNext_dict_end hh st (hD.at e) b fun h' he' => q0 (by rw [List.getElem?_map, a]; rfl) h' P.s.toks fun b o hb e => he' b o (ne_I hb) e
  · refine wpAny_pyNext_dict_item st (hD.at e) (k := q.1) (v := q.2) b fun key h' hkey hit' hs' => ?_
    obtain ⟨o', g1, g2, g3⟩ := hit'
    obtain ⟨t, rfl⟩ := PyProof.V.Flat.int_inv (kdl_flat_int hkey)
    exact q1 (.int p.1) (by rw [List.getElem?_map, a]; rfl) _ _ fun R E k => letOwned_other (s := { P.s with heap := h' }) g1 g2 (by decide) (k h' P.s.toks (one _ o') (fun b o hb e => (hs'.2 b (ne_I hb)).trans e) (one_has g1) one_same ⟨o', rfl, g2, by rw [← len_keys hk.1]; exact g3⟩ (c ▸ .int _ _)))
theorem itr_vals {es : List (Int × AV)} {ep : Nat} : Itr P0 t I (es.map (·.2)) (fun σ => σ.H l = some (.dictI es ep)) fun i own => ∃ o, own = one I o ∧ o.cls = .type "dict_valueiterator" ∧ o.data = .fields #[.ref l, .int i 0, .int es.length 0, .int ep 0] := by
  refine ⟨?_, fun hh le ok fr ⟨oI, e, hc, hd⟩ q => wpAny_pyIter_valiter ⟨oI, ok.has fr _ oI (e ▸ one_I), hc, hd⟩ q⟩
  rintro Φ P σ i own Q E hh le ok fr ⟨oI, rfl, hc, hd⟩ hdom hi q0 q1
  obtain ⟨o, e, kvs, hD, hk⟩ := ok.obj hdom
  have st := (⟨oI, ok.has fr _ oI one_I, hc, hd⟩ : P.s.heap.IsValIter _ l i es.length ep)
  rw [← len_keys hk.1] at st
  rcases hk.2.either i with ⟨a, b⟩ | ⟨v, x, a, b, r⟩
  · exact wpAny_pyNext_values_end hh st (hD.at e) (Option.map_eq_none_iff.mp ((List.getElem?_map ..).symm.trans b)) fun h' he' => q0 a h' P.s.toks fun b o hb e => he' b o (ne_I hb) e
  · obtain ⟨q, hq, rfl⟩ := Option.map_eq_some_iff.mp ((List.getElem?_map ..).symm.trans b)
    refine wpAny_pyNext_values_item st (hD.at e) (k := q.1) (v := q.2) hq fun h' hit' hs' => ?_
    obtain ⟨o', g1, g2, g3⟩ := hit'
    have off : Off (one I oI) P.s.heap h' := fun b o hb e => (hs'.2 b (ne_I hb)).trans e
    exact q1 v a _ _ fun R E k => letOwned_other (s := { P.s with heap := h' }) g1 g2 (by decide) (k h' P.s.toks (one _ o') off (one_has g1) one_same ⟨o', rfl, g2, by rw [← len_keys hk.1]; exact g3⟩ (r.le (ok.offLe fr off)))
theorem i_values {o : Expr} {f : Str} {apos p : Pos} (hf : f = ("values" : Str)) (ho : ∀ env w, attributeBase o f env w = w) (hl : (apos.endLine == p.line) = true)
    (h : We fs o σ fun v s => ∃ l es ep, v = .con (.ref l) ∧ s.H l = some (.dictI es ep) ∧ Q (es.map (·.2)) (fun σ => σ.H l = some (.dictI es ep)) s) : Wi fs t (.Call (.Attribute o f apos) [] [] p) σ Q := ⟨fun _ _ => rfl, fun Φ P K E F ok k => by
  subst hf
  refine Call_method0 (ho _ _) hl (h Φ P _ E F ok fun P1 x v σ1 l1 ok1 r1 ⟨l, es, ep, e0, h1, q⟩ => ?_)
  obtain rfl : x = .ref l := by rw [e0] at r1; exact r1.inv
  obtain ⟨o, e, kvs, hd, hk⟩ := ok1.obj h1
  have hm := (hd.at e).dictOf.mapOf
  refine ⟨"dict", "dict.values", PySem.F.plainAttrs_dict, PySem.F.slot_dict_values, PySem.F.type_dict_values, hm.typeIs, hm.noDict, ?_⟩
  refine callWith_builtin rfl (PySem.evalArgs_none ?_)
  refine call_meetsIn PySem.F.slot_dict_values hm.typeIs PySem.F.entry_dict_values (PySem.F.args_dict_values_1 _) (meets_dict_values (intKind Φ.C.prog Φ.C.w) l (ok1.noSys h1)) ⟨⟨kvs, (hd.at e).dictOf⟩, ?_⟩
  refine wpAny_pyIter_values (s := { P1.s with heap := P1.s.heap.push { cls := .type "dict_values", data := .fields #[.ref l] } }) ⟨_, Heap.get?_push_size _ rfl, rfl, rfl⟩ ((hd.at e).push _) ?_
  obtain ⟨ok2, l2⟩ := ok1.up (tk := P1.s.toks) (keep_push P1.s.heap { cls := .type "dict_values", data := .fields #[.ref l] })
  obtain ⟨ok3, l3, fr⟩ := hide_push F.cx ok2 (o := { cls := .type "dict_valueiterator", data := .fields #[.ref l, .int 0 0, .int kvs.length 0, .int ep 0] }) rfl
  exact k _ _ _ _ _ _ σ1 (l1.trans (l2.trans l3)) ok3 fr itr_vals ⟨_, rfl, rfl, by rw [← len_keys hk.1]; rfl⟩ q⟩
end
end Mine
end
section
namespace Mine
open PySem PySem.W PyProof.Rows PySem.Calls PySem.SeqAt
inductive AFlow where
  | next | brk | cont | ret (v : AV)
inductive FlR (P : Pt) : AFlow → Flow → Prop
  | next : FlR P .next .next
  | brk : FlR P .brk .brk
  | cont : FlR P .cont .cont
  | ret {v : AV} {x : Value} (r : VR P v x) : FlR P (.ret v) (.ret x)
noncomputable def FnFr (Φ : Fm) : Prop := Φ.env.frame = some Φ.env.locals ∧ ∃ outer, Φ.fr = Φ.env :: outer
noncomputable def W1 (fs : FS) (st : Stmt) (σ : St) (K : AFlow → St → Prop) : Prop :=
  ∀ Φ P (Q : Flow → Shared → Prop) E, FrOk Φ fs → FnFr Φ → Ok Φ σ P → (∀ P' g fl σ', Le P P' → Ok Φ σ' P' → FlR P' fl g → K fl σ' → Q g P'.s) → wpAny Φ.M Φ.A (exec st Φ.env) Q E P.s
noncomputable def Wx (fs : FS) (ss : List Stmt) (σ : St) (K : AFlow → St → Prop) : Prop :=
  ∀ Φ P (Q : Flow → Shared → Prop) E, FrOk Φ fs → FnFr Φ → Ok Φ σ P → (∀ P' g fl σ', Le P P' → Ok Φ σ' P' → FlR P' fl g → K fl σ' → Q g P'.s) → wpAny Φ.M Φ.A (execs ss Φ.env) Q E P.s
noncomputable def seqK (fs : FS) (ss : List Stmt) (K : AFlow → St → Prop) (fl : AFlow) (s : St) : Prop := match fl with
  | .next => Wx fs ss s K
  | fl => K fl s
section
variable {fs : FS} {σ : St} {K : AFlow → St → Prop} {st : Stmt} {ss b b' : List Stmt} {e o i t l r : Expr} {es ts : List Expr} {p q q' : Pos} {v : AV} {x a : Str} {k u : Nat}
theorem Wx.mono (h : Wx fs ss σ K) {K' : AFlow → St → Prop} (m : ∀ fl s, K fl s → K' fl s) : Wx fs ss σ K' := fun Φ P Q E F ff ok k => h Φ P Q E F ff ok fun P' g fl σ' l ok' r z => k P' g fl σ' l ok' r (m fl σ' z)
theorem W1.mono (h : W1 fs st σ K) {K' : AFlow → St → Prop} (m : ∀ fl s, K fl s → K' fl s) : W1 fs st σ K' := fun Φ P Q E F ff ok k => h Φ P Q E F ff ok fun P' g fl σ' l ok' r z => k P' g fl σ' l ok' r (m fl σ' z)
theorem w_nil (h : K .next σ) : Wx fs [] σ K := fun Φ P Q E F ff ok k => wpAny_pure (k P .next .next σ Le.refl ok .next h)
theorem w_cons (h : W1 fs st σ (seqK fs ss K)) : Wx fs (st :: ss) σ K := fun Φ P Q E F ff ok k => wpAny_execs_cons (h Φ P _ E F ff ok fun P1 g fl σ1 l1 ok1 r1 z => by
  cases r1 with
  | next => exact z Φ P1 Q E F ff ok1 fun P2 g fl σ2 l2 => k P2 g fl σ2 (l1.trans l2)
  | brk => exact k P1 .brk .brk σ1 l1 ok1 .brk z
  | cont => exact k P1 .cont .cont σ1 l1 ok1 .cont z
  | ret r => exact k P1 _ _ σ1 l1 ok1 (.ret r) z)
theorem k_next (h : Wx fs ss σ K) : seqK fs ss K .next σ := h
theorem k_ret (h : K (.ret v) σ) : seqK fs ss K (.ret v) σ := h
theorem k_brk (h : K .brk σ) : seqK fs ss K .brk σ := h
theorem k_cont (h : K .cont σ) : seqK fs ss K .cont σ := h
theorem FrOk.notI {Φ : Fm} (F : FrOk Φ fs) : interactive Φ.env = false := by unfold interactive; rw [F.kn]; rfl
theorem x_expr (h : We fs (.Call e es [] p) σ fun _ s => K .next s) : W1 fs (.Expr (.Call e es [] p) q) σ K := fun Φ P Q E F ff ok k => wpAny_Expr_any (h Φ P _ E F ok fun P1 x v σ1 l1 ok1 _ z => k P1 .next .next σ1 l1 ok1 .next z) F.notI rfl
theorem x_brk (h : K .brk σ) : W1 fs (.Break p) σ K := fun Φ P Q E F ff ok k => by
  rw [show exec (.Break p) Φ.env = (standAt p >>= fun _ => pure .brk) from rfl]
  exact wpAny_bind (wpAny_standAt (wpAny_pure (k P .brk .brk σ Le.refl ok .brk h)))
theorem x_cont (h : K .cont σ) : W1 fs (.Continue p) σ K := fun Φ P Q E F ff ok k => by
  rw [show exec (.Continue p) Φ.env = (standAt p >>= fun _ => pure .cont) from rfl]
  exact wpAny_bind (wpAny_standAt (wpAny_pure (k P .cont .cont σ Le.refl ok .cont h)))
theorem x_ret (h : We fs e σ fun v s => K (.ret v) s) : W1 fs (.Return (some e) p) σ K := fun Φ P Q E F ff ok k => wpAny_Return_some (h Φ P _ E F ok fun P1 x v σ1 l1 ok1 r1 z => k P1 _ _ σ1 l1 ok1 (.ret r1) z)
theorem x_if (h : Wt fs t σ fun c s => Br c (Wx fs b s K) (Wx fs b' s K)) : W1 fs (.If t b b' p) σ K := fun Φ P Q E F ff ok k => by
  rw [arm_exec_If]
  exact wpAny_bind (wpAny_standAt (wpAny_bind (h Φ P _ E F ok fun P1 c σ1 l1 ok1 z => match c, z with
    | true, z => z.1 rfl Φ P1 Q E F ff ok1 fun P2 g fl σ2 l2 => k P2 g fl σ2 (l1.trans l2)
    | false, z => z.2 rfl Φ P1 Q E F ff ok1 fun P2 g fl σ2 l2 => k P2 g fl σ2 (l1.trans l2))))
theorem x_assert {m : Option Expr} (h : Wt fs t σ fun c s => c = true ∧ K .next s) : W1 fs (.Assert t m p) σ K := fun Φ P Q E F ff ok k => by
  rw [arm_exec_Assert]
  exact wpAny_bind (wpAny_standAt (wpAny_bind (h Φ P _ E F ok fun P1 c σ1 l1 ok1 ⟨e, z⟩ => by subst e; exact wpAny_pure (k P1 .next .next σ1 l1 ok1 .next z))))
noncomputable def Wal (fs : FS) (ts : List Expr) (v : AV) (σ : St) (Q : St → Prop) : Prop := ∀ Φ P y K E, FrOk Φ fs → Ok Φ σ P → VR P v y → (∀ P' σ', Le P P' → Ok Φ σ' P' → Q σ' → K () P'.s) → wpAny Φ.M Φ.A (assignAll y ((assignEach ts Φ.env).map (·.2))) K E P.s
theorem a_one {Qs : St → Prop} (ht : ∀ env, assignEach [t] env = [(false, assign t env)]) (h : Wa fs t v σ Qs) : Wal fs [t] v σ Qs := fun Φ P y K E F ok r k => by
  rw [ht]; exact h Φ P y K E F ok r k
theorem a_more {t' : Expr} {Qs : St → Prop} (ht : ∀ env, assignEach (t :: t' :: ts) env = (false, assign t env) :: (false, assign t' env) :: assignEach ts env) (ht' : ∀ env, assignEach (t' :: ts) env = (false, assign t' env) :: assignEach ts env)
    (h : Wa fs t v σ fun s => Wal fs (t' :: ts) v s Qs) : Wal fs (t :: t' :: ts) v σ Qs := fun Φ P y K E F ok r k => by
  rw [ht]
  show wpAny _ _ (holding [y] (assign t Φ.env y) >>= fun _ => assignAll y (assign t' Φ.env :: (assignEach ts Φ.env).map (·.2))) _ _ _
  refine wpAny_bind (wpAny_holding (h Φ P y _ E F ok r fun P1 σ1 l1 ok1 z => ?_))
  have := z Φ P1 y K E F ok1 (r.le l1) fun P2 σ2 l2 ok2 q => k P2 σ2 (l1.trans l2) ok2 q
  rw [ht'] at this; exact this
theorem x_asg (h1 : ∀ env, swapsWithSole ts e p.line env = pure false) (h2 : ∀ env, swappedStores ts e env = pure none) (h : We fs e σ fun v s => Wal fs ts v s fun s => K .next s) : W1 fs (.Assign ts e p) σ K := fun Φ P Q E F ff ok k =>
  wpAny_Assign_stores (h Φ P _ E F ok fun P1 x v σ1 l1 ok1 r1 z => z Φ P1 x _ E F ok1 r1 fun P2 σ2 l2 ok2 z => k P2 .next .next σ2 (l1.trans l2) ok2 .next z) (h1 _) (h2 _)
noncomputable def swapOk (fs : FS) (x : Str) (px : Pos) (y : Str) (py : Pos) (vs : List Expr) : Bool :=
  x != y && fs.scope.names.lookup x == some .local && fs.scope.names.lookup y == some .local && py.line == px.line && vs.length == 2 && !vs.any isStar && !vs.all (foldedForSure 8) && !vs.all (constantsAlone 8)
theorem swapped_eq {y : Str} {px py : Pos} {vs : List Expr} {k' : Nat} (h : swapOk fs x px y py vs = true) {Φ : Fm} (F : FrOk Φ fs) : swappedStores [.Tuple [.Name x px, .Name y py] k' q'] (.Tuple vs k q) Φ.env = pure (some [x, y]) := by
  unfold swapOk at h
  simp only [Bool.and_eq_true, bne_iff_ne, ne_eq, beq_iff_eq, Bool.not_eq_true'] at h
  obtain ⟨⟨⟨⟨⟨⟨⟨h1, h2⟩, h3⟩, h4⟩, h5⟩, h6⟩, h7⟩, h8⟩ := h
  have hx : Φ.env.kindOf x = some .local := by unfold Env.kindOf; rw [F.scope]; exact h2
  have hy : Φ.env.kindOf y = some .local := by unfold Env.kindOf; rw [F.scope]; exact h3
  have hb : Φ.env.blockKind = .function := by unfold Env.blockKind; rw [F.kn]; rfl
  have hyx : (y == x) = false := beq_eq_false_iff_ne.mpr (fun z => h1 z.symm)
  have hxy : (x == y) = false := beq_eq_false_iff_ne.mpr h1
  have hpx : (Expr.Name x px).pos.line = px.line := rfl
  unfold swappedStores
  dsimp only
  rw [if_neg, if_neg]
  · simp only [List.filterMap_cons, List.filterMap_nil, List.head?_cons, Option.map_some, Option.getD_some, hx, hy, hpx, h4, beq_self_eq_true, Bool.and_self, if_true]
    rw [if_neg, if_neg, if_neg]
    · rw [h8]; exact Bool.false_ne_true
    · rw [h7]; exact Bool.false_ne_true
    · simp [List.eraseDups_cons, List.filter_cons, hxy, hyx]
  · intro hz
    obtain ⟨e, he, hz⟩ := List.any_eq_true.mp hz
    have := List.any_eq_false.mp h6 e he
    revert hz this
    cases e <;> intro hz this <;> first | exact this rfl | exact Bool.false_ne_true hz
  · rw [h5, hb]; exact Bool.false_ne_true
theorem x_swap {y : Str} {px py : Pos} {vs : List Expr} {k' : Nat} (hs : swapOk fs x px y py vs = true) (h : We fs (.Tuple vs k q) σ fun v s => ∃ a b, v = .tup [a, b] ∧ Ws fs y b s fun s => Ws fs x a s fun s => K .next s) :
    W1 fs (.Assign [.Tuple [.Name x px, .Name y py] k' q'] (.Tuple vs k q) p) σ K := fun Φ P Q E F ff ok kk => by
  refine Assign_Tuple_swapped (names := [x, y]) (h Φ P _ E F ok fun P1 z v σ1 l1 ok1 r1 ⟨a, b, e0, h1⟩ => ?_) rfl (swapped_eq hs F)
  subst e0
  refine r1.eT fun t its ht im rs => ?_
  show wpAny _ _ (unpackItems (.ref t) 2 none) _ _ _
  rw [show (2 : Nat) = its.size from rs.size.symm]
  refine wpAny_unpackItems_tuple F.handled ht fun h' hx => ?_
  obtain ⟨ok2, l2⟩ := ok1.up (tk := P1.s.toks) fun b o e => hx b o (Nat.ne_of_lt (Heap.lt_size e)) e
  have rs := rs.le l2
  clear hx ht
  generalize its.toList = xs at rs
  refine rs.e2 fun u w ru rw' => ?_
  show wpAny _ _ (assignInOrder [bindName Φ.env y, bindName Φ.env x] [w, u]) _ _ _
  exact assignInOrder_cons (h1 Φ _ w _ E F ok2 rw' fun P3 σ3 l3 ok3 h2 => assignInOrder_cons (h2 Φ P3 u _ E F ok3 (ru.le l3) fun P4 σ4 l4 ok4 z => assignInOrder_nil (kk P4 .next .next σ4 (l1.trans (l2.trans (l3.trans l4))) ok4 .next z)))
theorem x_augA (h : We fs o σ fun ov s => ∃ i, At ov a s (.int i) ∧ We fs e s fun v s => ∃ j, v = .int j ∧ Sa ov a (.int (i + j)) s fun s => K .next s) : W1 fs (.AugAssign (.Attribute o a q) .Add e p) σ K := fun Φ P Q E F ff ok k =>
  wpAny_AugAssign_AttributeAny (h Φ P _ E F ok fun P1 x ov σ1 l1 ok1 r1 ⟨i, h1, h2⟩ => (h1 Φ P1 x _ F.cx ok1 r1).run ok1 fun P2 y l2 ok2 r2 => h2 Φ P2 _ E F ok2 fun P3 z v σ3 l3 ok3 r3 ⟨j, e0, h3⟩ => by
    subst e0
    refine r2.eI fun t => r3.eI fun t' => PySem.P.iadd_int ?_
    obtain ⟨ok4, l4⟩ := ok3.up (h' := P3.s.heap) (tk := P3.s.toks + 1) fun _ _ e => e
    exact h3 Φ _ x _ _ E F.cx ok4 (((r1.le l2).le l3).le l4) (.int _ _) fun P5 σ5 l5 ok5 z => k P5 .next .next σ5 (l1.trans (l2.trans (l3.trans (l4.trans l5)))) ok5 .next z)
theorem x_augS (h : We fs o σ fun ov s => ∃ i, At ov a s (.int i) ∧ We fs e s fun v s => ∃ j, v = .int j ∧ Sa ov a (.int (i - j)) s fun s => K .next s) : W1 fs (.AugAssign (.Attribute o a q) .Sub e p) σ K := fun Φ P Q E F ff ok k =>
  wpAny_AugAssign_AttributeAny (h Φ P _ E F ok fun P1 x ov σ1 l1 ok1 r1 ⟨i, h1, h2⟩ => (h1 Φ P1 x _ F.cx ok1 r1).run ok1 fun P2 y l2 ok2 r2 => h2 Φ P2 _ E F ok2 fun P3 z v σ3 l3 ok3 r3 ⟨j, e0, h3⟩ => by
    subst e0
    refine r2.eI fun t => r3.eI fun t' => PySem.P.isub_int ?_
    obtain ⟨ok4, l4⟩ := ok3.up (h' := P3.s.heap) (tk := P3.s.toks + 1) fun _ _ e => e
    exact h3 Φ _ x _ _ E F.cx ok4 (((r1.le l2).le l3).le l4) (.int _ _) fun P5 σ5 l5 ok5 z => k P5 .next .next σ5 (l1.trans (l2.trans (l3.trans (l4.trans l5)))) ok5 .next z)
noncomputable def stepK (J : St → Prop) (K : AFlow → St → Prop) (fl : AFlow) (s : St) : Prop := match fl with
  | .next | .cont => J s
  | .brk => K .next s
  | .ret v => K (.ret v) s
theorem sk_next {J : St → Prop} (h : J σ) : stepK J K .next σ := h
theorem sk_cont {J : St → Prop} (h : J σ) : stepK J K .cont σ := h
theorem sk_ret {J : St → Prop} (h : K (.ret v) σ) : stepK J K (.ret v) σ := h
theorem sk_brk {J : St → Prop} (h : K .next σ) : stepK J K .brk σ := h
theorem x_for (h : Wi fs t i σ fun vs dom s => ∃ I : Nat → St → Prop, I 0 s ∧ (∀ i s, I i s → dom s) ∧ (∀ i v s, vs[i]? = some v → I i s → Wa fs t v s fun s => Wx fs b s (stepK (I (i + 1)) K)) ∧ ∀ s, I vs.length s → K .next s) : W1 fs (.For t i b [] p) σ K := fun Φ P Q E F ff ok k => by
  show wpAny _ _ (standAt p >>= fun _ => eval i Φ.env >>= fun x0 => foldedSetIterable i Φ.env x0 >>= fun x => standAt i.pos >>= fun _ => holding [x] (pyIter x) >>= fun i => runOwn (.forLoop t i b [] Φ.env) Φ.env) _ _ _
  have hai := h.2 Φ P (fun i s₁ => wpAny Φ.M Φ.A (runOwn (.forLoop t i b [] Φ.env) Φ.env) Q E s₁) E F ok fun P1 I own S vs dom σ1 l1 ok1 fr it s0 ⟨J, h0, hd, hs, he⟩ => by
    refine wpAny_runOwn ?_
    show codeAny _ Φ.A _ _ _
    refine codeAny_forLoop_any (fun k s' => ∃ i σi Pi own, k = vs.length - i ∧ i ≤ vs.length ∧ s' = Pi.s ∧ Le P1 Pi ∧ Ok (Φ.hide own) σi Pi ∧ Fre Φ own ∧ S i own ∧ J i σi) (fun m s₂ hI => ?_) vs.length ⟨0, σ1, P1, own, rfl, Nat.zero_le _, rfl, Le.refl, ok1, fr, s0, h0⟩
    obtain ⟨i, σi, Pi, own, rfl, hi, rfl, li, oki, fri, si, ji⟩ := hI
    refine it.draw F.handled li oki fri si (hd i σi ji) hi (fun hn h' tk off => ?_) fun v hv x s₁ lo => lo _ _ fun h' tk own' off has sm si' rx => ?_
    · have hin : i = vs.length := Nat.le_antisymm hi (List.getElem?_eq_none_iff.mp hn)
      obtain ⟨ok2, l2⟩ := oki.leave (tk := tk) fri off
      exact wpAny_pure (k _ .next .next σi (l1.trans (li.trans l2)) ok2 .next (he σi (hin ▸ ji)))
    · obtain ⟨ok2, l2⟩ := oki.own (tk := tk) fri off has sm
      have fr2 := fri.same sm
      have F2 := F.hide fr2
      refine hs i v σi hv ji (Φ.hide own') _ x _ _ F2 ok2 rx fun P3 σ3 l3 ok3 z => z (Φ.hide own') P3 _ _ F2 ff ok3 fun P4 g fl σ4 l4 ok4 r4 z => ?_
      have l14 := li.trans (l2.trans (l3.trans l4))
      have go : J (i + 1) σ4 → ∃ m, m < vs.length - i ∧ ∃ i σi Pi own, m = vs.length - i ∧ i ≤ vs.length ∧ P4.s = Pi.s ∧ Le P1 Pi ∧ Ok (Φ.hide own) σi Pi ∧ Fre Φ own ∧ S i own ∧ J i σi := fun z =>
        have hlt := (List.getElem?_eq_some_iff.mp hv).1
        ⟨_, Nat.sub_lt_sub_left hlt (Nat.lt_succ_self i), i + 1, σ4, P4, own', rfl, hlt, rfl, l14, ok4, fr2, si', z⟩
      cases r4 with
      | next => exact go z
      | cont => exact go z
      | brk => exact k P4 .next .next σ4 (l1.trans l14) (ok4.unhide fr2) .next z
      | ret r => exact k P4 _ _ σ4 (l1.trans l14) (ok4.unhide fr2) (.ret r) z
  refine wpAny_bind (wpAny_standAt (wpAny_bind (wpAny_mono hai (fun x s₁ hx => ?_) fun _ _ e => e)))
  rw [h.1]
  exact wpAny_bind (wpAny_pure (wpAny_bind (wpAny_standAt (wpAny_bind (wpAny_holding hx)))))
theorem x_while (m : Nat) (I : Nat → St → Prop) (h0 : I m σ) (h : ∀ n s, I n s → Wt fs t s fun c s => Br c (Wx fs b s (stepK (fun s => ∃ k, k < n ∧ I k s) K)) (Wx fs b' s K)) : W1 fs (.While t b b' p) σ K := fun Φ P Q E F ff ok k => by
  show wpAny _ _ (standAt p >>= fun _ => runOwn (.whileLoop t b b' Φ.env) Φ.env) _ _ _
  refine wpAny_bind (wpAny_standAt (wpAny_runOwn ?_))
  show codeAny _ Φ.A _ _ _
  refine codeAny_whileLoop (fun k s' => ∃ σi Pi, s' = Pi.s ∧ Le P Pi ∧ Ok Φ σi Pi ∧ I k σi) (fun n s₁ hI => ?_) m ⟨σ, P, rfl, Le.refl, ok, h0⟩
  obtain ⟨σi, Pi, rfl, li, oki, ji⟩ := hI
  refine h n σi ji Φ Pi _ _ F oki fun P2 c σ2 l2 ok2 z => ?_
  cases c with
  | false => exact z.2 rfl Φ P2 _ _ F ff ok2 fun P3 g fl σ3 l3 ok3 r3 z => k P3 g fl σ3 (li.trans (l2.trans l3)) ok3 r3 z
  | true =>
    refine z.1 rfl Φ P2 _ _ F ff ok2 fun P3 g fl σ3 l3 ok3 r3 z => ?_
    have l13 := li.trans (l2.trans l3)
    cases r3 with
    | next => exact let ⟨k, a, b⟩ := z; ⟨k, a, σ3, P3, rfl, l13, ok3, b⟩
    | cont => exact let ⟨k, a, b⟩ := z; ⟨k, a, σ3, P3, rfl, l13, ok3, b⟩
    | brk => exact k P3 .next .next σ3 l13 ok3 .next z
    | ret r => exact k P3 _ _ σ3 l13 ok3 (.ret r) z
end
end Mine
end
section
namespace Mine
open PySem PySem.W PyProof.Rows PySem.Calls PySem.SeqAt
section
variable {prog : Program} {w : World} {A : Around} {E : Value → Shared → Prop} {R : Result → Shared → Prop} {s : Shared}
noncomputable def testBody (env : Env) : Expr → Bool → Sem (ForInStep Bool) := fun c r => if r = true then do let ok ← isTrue c env (eval c env); pure (ForInStep.yield ok) else pure (ForInStep.yield r)
theorem compLoop_any {elt : Expr} {gens : List Comprehension} {scope : Scope} {pos : Pos} {d : Nat} {g : Comprehension} {it acc : Value} {env : Env} (hg : gens[d]? = some g) (hna : g.is_async = 0) (I : Nat → Shared → Prop)
    (turn : ∀ n s, I n s → wpAny (model prog w) A (pyNext it) (fun r s₁ => match r with
      | none => R (.ok .next) s₁
      | some v => wpAny (model prog w) A (letOwnedTupleGo g.target it v) (fun _ s₂ => wpAny (model prog w) A (assign g.target env v) (fun _ s₃ => wpAny (model prog w) A (forIn g.ifs true (testBody env)) (fun ok s₄ =>
          if ok = true then (match gens[d + 1]? with
            | some g' => wpAny (model prog w) A (eval g'.iter env) (fun x s₅ => (∀ x, foldedSetIterable g'.iter env x = pure x) ∧ g'.is_async = 0 ∧ wpAny (model prog w) A (pyIter x) (fun i s₆ =>
                wpAny (model prog w) A (runOwn (.compStart (.ListComp elt gens scope pos) (d + 1) i acc env) env) (fun _ s₇ => ∃ m, m < n ∧ I m s₇) (notedBy (model prog w) A env fun e s' => R (.error e) s') s₆) (notedBy (model prog w) A env fun e s' => R (.error e) s') s₅) (notedBy (model prog w) A env fun e s' => R (.error e) s') s₄
            | none => wpAny (model prog w) A (eval elt env) (fun x s₅ => wpAny (model prog w) A (call (.builtin "list.append") [acc, x]) (fun _ s₆ => ∃ m, m < n ∧ I m s₆) (notedBy (model prog w) A env fun e s' => R (.error e) s') s₅) (notedBy (model prog w) A env fun e s' => R (.error e) s') s₄)
          else ∃ m, m < n ∧ I m s₄) (notedBy (model prog w) A env fun e s' => R (.error e) s') s₃) (notedBy (model prog w) A env fun e s' => R (.error e) s') s₂) (notedBy (model prog w) A env fun e s' => R (.error e) s') s₁) (notedBy (model prog w) A env fun e s' => R (.error e) s') s)
    (n : Nat) (h : I n s) : codeAny (model prog w) A (.compLoop (.ListComp elt gens scope pos) d it acc env) R s := by
  refine codeAny_loop rfl I (fun n s hI => ?_) n h
  show wpAny _ A ((compTurn (.ListComp elt gens scope pos) d it acc env).onRaise (fun x => do noteFrame x env; theTreesLotGoes x)) _ _ s
  refine wpAny_noted ?_
  unfold compTurn
  dsimp only
  rw [hg]
  dsimp only
  have hb : (g.is_async != 0) = false := by rw [hna]; rfl
  rw [hb]
  simp only [Bool.false_eq_true, if_false]
  refine wpAny_bind (wpAny_standAt (wpAny_bind (wpAny_mono (turn n s hI) (fun r s₁ h₁ => ?_) fun _ _ h' => h')))
  cases r with
  | none => exact wpAny_pure h₁
  | some v =>
    refine wpAny_bind (wpAny_mono h₁ (fun _ s₂ h₂ => ?_) fun _ _ h' => h')
    refine wpAny_bind (wpAny_mono h₂ (fun _ s₃ h₃ => ?_) fun _ _ h' => h')
    refine wpAny_bind (wpAny_mono h₃ (fun ok s₄ h₄ => ?_) fun _ _ h' => h')
    cases ok with
    | false =>
      simp only [Bool.false_eq_true, if_false] at h₄ ⊢
      exact wpAny_pure (And.intro rfl h₄)
    | true =>
      simp only [if_true] at h₄ ⊢
      cases hg' : gens[d + 1]? with
      | none =>
        rw [hg'] at h₄
        dsimp only at h₄ ⊢
        exact wpAny_bind (wpAny_bind (wpAny_mono h₄ (fun x s₅ h₅ => wpAny_bind (wpAny_mono h₅ (fun _ s₆ h₆ => wpAny_pure (wpAny_pure (And.intro rfl h₆))) fun _ _ e => e)) fun _ _ e => e))
      | some g' =>
        rw [hg'] at h₄
        dsimp only at h₄ ⊢
        refine wpAny_bind (wpAny_mono h₄ (fun x s₅ h₅ => wpAny_bind (wpAny_standAt ?_)) fun _ _ e => e)
        obtain ⟨k1, k2, k3⟩ := h₅
        have hb' : ¬ ((g'.is_async != 0) = true) := by rw [k2]; decide
        simp only [hb', if_false]
        rw [k1 x]
        refine wpAny_bind (wpAny_pure (wpAny_bind (wpAny_holding (wpAny_mono k3 (fun i s₆ h₆ => ?_) fun _ _ e => e))))
        exact wpAny_bind (wpAny_mono h₆ (fun _ s₇ h₇ => wpAny_pure (And.intro rfl h₇)) fun _ _ e => e)
theorem compStart_any {elt : Expr} {gens : List Comprehension} {scope : Scope} {pos : Pos} {d : Nat} {g : Comprehension} {it acc : Value} {env : Env} (hg : gens[d]? = some g) (hna : g.is_async = 0)
    (h0 : codeAny (model prog w) A (.compLoop (.ListComp elt gens scope pos) d it acc env) R s)
    (h : wpAny (model prog w) A (pyIter it) (fun it' s' => codeAny (model prog w) A (.compLoop (.ListComp elt gens scope pos) d it' acc env) R s') (notedBy (model prog w) A env fun x s' => R (.error x) s') s) :
    codeAny (model prog w) A (.compStart (.ListComp elt gens scope pos) d it acc env) R s := by
  refine codeAny_of_tree ?_
  show wpAny _ _ ((compStart (.ListComp elt gens scope pos) d it acc env).onRaise (fun x => do noteFrame x env; standAt theWindowsPlace)) _ _ s
  refine wpAny_notedAt ?_
  unfold compStart
  have hel : ¬ (((clausesOf (.ListComp elt gens scope pos))[d]?).elim false (·.is_async != 0) = true) := by
    show ¬ ((gens[d]?).elim false (·.is_async != 0) = true)
    rw [hg]
    show ¬ ((g.is_async != 0) = true)
    rw [hna]; decide
  rw [if_neg hel]
  show wpAny _ _ (ask >>= _) _ _ s
  refine wpAny_bind (wpAny_askSetting (wpAny_ite ?_))
  have hc : (clausesOf (.ListComp elt gens scope pos))[d]? = some g := hg
  split
  · first
      | exact wpAny_bind (wpAny_pure (wpAny_pure (And.intro rfl h0)))
      | exact wpAny_pure (And.intro rfl h0)
  · refine wpAny_bind (wpAny_rule ?_)
    rw [hc]
    exact wpAny_bind (wpAny_standAt (wpAny_bind (wpAny_mono h (fun it' s' h' => wpAny_pure (And.intro rfl h')) fun _ _ x => x)))
theorem forIn_off (env : Env) : ∀ l : List Expr, (forIn l false (testBody env) : Sem Bool) = pure false
  | [] => rfl
  | c :: l => by
    rw [List.forIn_cons]
    show (pure (ForInStep.yield false) >>= _) = _
    rw [pure_bind]
    exact forIn_off env l
end
noncomputable def kCells (names : List (Str × NameKind)) : Nat := (names.filter fun p => p.2 == .cell).length
theorem pushCells_new : ∀ (names : List (Str × NameKind)) (h : Heap) (j : Nat), j < kCells names → ∃ o, (pushCells h names).get? (h.objs.size + j) = some o ∧ o.data = .cell none
  | [], h, j, hj => by cases hj
  | (nm, kd) :: r, h, j, hj => by
    unfold pushCells
    unfold kCells at hj
    by_cases hc : (kd == NameKind.cell) = true
    · rw [if_pos hc]
      rw [List.filter_cons, if_pos hc, List.length_cons] at hj
      cases j with
      | zero => exact ⟨_, pushCells_keeps r _ _ _ (Heap.get?_push_size _ rfl), rfl⟩
      | succ j =>
        have := pushCells_new r (h.push { cls := .type "cell", data := .cell none }) j (Nat.lt_of_succ_lt_succ hj)
        rw [Heap.size_push] at this
        rw [show h.objs.size + (j + 1) = h.objs.size + 1 + j by lia]
        exact this
    · rw [if_neg hc]
      rw [List.filter_cons, if_neg hc] at hj
      exact pushCells_new r h j hj
noncomputable def closC (cells : List (Str × Addr)) : List (Str × NameKind) → List (Str × Addr) → List (Str × Addr)
  | [], acc => acc
  | (name, kind) :: r, acc => if kind == .free then (match cells.lookup name with
    | some l => closC cells r ((name, l) :: acc)
    | none => closC cells r acc) else closC cells r acc
theorem closureFor_eq {scope : Scope} {env : Env} (h : ∀ p ∈ scope.names, p.2 = .free → (env.cells.lookup p.1).isSome = true) : closureFor scope env = pure (closC env.cells scope.names []) := by
  have go : ∀ (names : List (Str × NameKind)) (acc : List (Str × Addr)), (∀ p ∈ names, p.2 = .free → (env.cells.lookup p.1).isSome = true) →
      (forIn names acc fun x cs => if (x.2 == NameKind.free) = true then (do let a ← cellOf env x.1; pure (ForInStep.yield ((x.1, a) :: cs))) else pure (ForInStep.yield cs) : Sem _) = pure (closC env.cells names acc) := by
    intro names
    induction names with
    | nil => intro acc _; rfl
    | cons p r ih =>
      intro acc hp
      obtain ⟨nm, kd⟩ := p
      rw [List.forIn_cons]
      unfold closC
      by_cases hk : (kd == NameKind.free) = true
      · obtain ⟨l, hl⟩ := Option.isSome_iff_exists.mp (hp (nm, kd) (by simp) (beq_iff_eq.mp hk))
        dsimp only at hl ⊢
        rw [if_pos hk, if_pos hk]
        unfold cellOf
        rw [hl]
        simp only [pure_bind]
        exact ih _ fun q hq => hp q (List.mem_cons_of_mem _ hq)
      · dsimp only
        rw [if_neg hk, if_neg hk]
        simp only [pure_bind]
        exact ih _ fun q hq => hp q (List.mem_cons_of_mem _ hq)
  unfold closureFor
  have := go scope.names [] h
  simp only [pure_bind, bind_pure] at this ⊢
  first | exact this | (refine Eq.trans ?_ this; rfl)
section
variable {M : Model} {A : Around} {E : Value → Shared → Prop} {s : Shared}
noncomputable def compEnv2 (sc : Scope) (L : Addr) (cl : List (Str × Addr)) (env : Env) : Env := { scope := sc, locals := L, globals := env.globals, cells := cellsFrom (L + 1) sc.names cl, qual := env.qual, func := none, code := env.code, frame := env.frame, builtins := env.builtins }
theorem wpAny_newComp {sc : Scope} {cl : List (Str × Addr)} {env : Env} {Q : Env → Shared → Prop} (hQ : Q (compEnv2 sc s.heap.objs.size cl env) { s with heap := pushCells (s.heap.push { cls := .type "dict", data := .dict #[] }) sc.names }) :
    wpAny M A (newFunctionEnv sc env.globals cl [] env.qual none .none (some env)) Q E s := by
  simp only [newFunctionEnv, Option.isSome_some, if_true]
  refine wpAny_bind (wpAny_alloc ?_)
  refine wpAny_bind (wpAny_layCells _ (fun name kind cells => by cases hkc : kind == NameKind.cell <;> simp [hkc]) _ _ _ _ ?_)
  rw [show ({ s with heap := s.heap.push { cls := .type "dict", data := .dict #[] } } : Shared).heap.objs.size = s.heap.objs.size + 1 from Heap.size_push ..]
  refine wpAny_bind ?_
  rw [List.forIn_nil]
  exact wpAny_pure (wpAny_pure hQ)
end
noncomputable def relabel' (sc outer : Scope) : Scope := { sc with names := sc.names.map fun p => if p.2 == .free && outer.kind == .function && outer.names.lookup p.1 == some .cell then (p.1, .cell) else p }
noncomputable def plainGen (g : Comprehension) : Bool := g.is_async == 0
noncomputable def goodComp (sc : Scope) (cells : List (Str × Nat)) : Bool :=
  sc.kind == .function && sc.names.all (fun p => p.2 != .local || sc.names.lookup p.1 == some .local) && sc.names.all (fun p => p.2 != .free || (cells.lookup p.1).isSome)
noncomputable def compFs (fs : FS) (sc : Scope) (base : Nat) : FS := ⟨fs.T, fs.n, relabel' sc fs.scope, cellsFrom base sc.names (closC fs.cells sc.names []), fs.lam⟩
theorem closC_congr {a c : List (Str × Nat)} : ∀ (names : List (Str × NameKind)) (acc : List (Str × Nat)), (∀ p ∈ names, p.2 = .free → a.lookup p.1 = c.lookup p.1) → closC a names acc = closC c names acc
  | [], acc, h => rfl
  | (nm, kd) :: r, acc, h => by
    have ih := fun acc => closC_congr r acc fun p hp => h p (List.mem_cons_of_mem _ hp)
    unfold closC
    by_cases hk : (kd == NameKind.free) = true
    · rw [if_pos hk, if_pos hk, h (nm, kd) List.mem_cons_self (beq_iff_eq.mp hk), ih]
      cases c.lookup nm <;> simp only [ih]
    · rw [if_neg hk, if_neg hk, ih]
noncomputable def addC (H : Addr → Option AObj) (base : Nat) (cs : List AObj) : Addr → Option AObj := fun a => if base ≤ a then (cs[a - base]?).or (H a) else H a
noncomputable def Fm.put (Φ : Fm) (D : Addr) (acc : List AV) : Fm := { Φ with K := upd Φ.K D (.list acc) }
noncomputable def Wif (fs : FS) (l : List Expr) (σ : St) (Q : Bool → St → Prop) : Prop :=
  ∀ Φ P K E, FrOk Φ fs → Ok Φ σ P → (∀ P' b σ', Le P P' → Ok Φ σ' P' → Q b σ' → K b P'.s) → wpAny Φ.M Φ.A (forIn l true (testBody Φ.env)) K E P.s
noncomputable def NewD (Φ : Fm) (D : Addr) : Prop := Φ.K D = none ∧ D ≠ Φ.env.locals ∧ D ≠ sysModules
noncomputable def Wem (fs : FS) (elt : Expr) (gs : List Comprehension) (acc : List AV) (σ : St) (Q : List AV → St → Prop) : Prop :=
  ∀ (Φ : Fm) (P : Pt) (D : Addr) (K : Shared → Prop) (E : Value → Shared → Prop) (gens : List Comprehension) (d : Nat) (scope : Scope) (pos : Pos), FrOk Φ fs → NewD Φ D → gens.drop (d + 1) = gs → gens.all plainGen = true → Ok (Φ.put D acc) σ P →
    (∀ P' acc' σ', Le P P' → Ok (Φ.put D acc') σ' P' → Q acc' σ' → K P'.s) →
    match gens[d + 1]? with
      | some g' => wpAny Φ.M Φ.A (eval g'.iter Φ.env) (fun x s₅ => (∀ x, foldedSetIterable g'.iter Φ.env x = pure x) ∧ g'.is_async = 0 ∧ wpAny Φ.M Φ.A (pyIter x) (fun i s₆ =>
          wpAny Φ.M Φ.A (runOwn (.compStart (.ListComp elt gens scope pos) (d + 1) i (.ref D) Φ.env) Φ.env) (fun _ s₇ => K s₇) E s₆) E s₅) E P.s
      | none => wpAny Φ.M Φ.A (eval elt Φ.env) (fun x s₅ => wpAny Φ.M Φ.A (call (.builtin "list.append") [.ref D, x]) (fun _ s₆ => K s₆) E s₅) E P.s
noncomputable def Wcl (fs : FS) (elt : Expr) (g : Comprehension) (gs : List Comprehension) (vs : List AV) (dom : St → Prop) (acc : List AV) (σ : St) (Q : List AV → St → Prop) : Prop :=
  ∃ J : Nat → List AV → St → Prop, J 0 acc σ ∧ (∀ i acc s, J i acc s → dom s) ∧ (∀ i v acc s, vs[i]? = some v → J i acc s → Wa fs g.target v s fun s => Wif fs g.ifs s fun c s => Br c (Wem fs elt gs acc s (J (i + 1))) (J (i + 1) acc s)) ∧ ∀ acc s, J vs.length acc s → Q acc s
section
variable {Φ : Fm} {fs : FS} {σ : St} {P : Pt} {own own' : Own} {D : Addr} {acc acc' : List AV} {e elt : Expr} {Q : Bool → St → Prop} {Ql : List AV → St → Prop} {l : List Expr} {v : AV} {g : Comprehension} {gs : List Comprehension}
theorem c_if0 (q : Q true σ) : Wif fs [] σ Q := fun Φ P K E F ok k => wpAny_pure (k P true σ Le.refl ok q)
theorem c_if1 (h : Wt fs e σ fun c s => Br c (Wif fs l s Q) (Q false s)) : Wif fs (e :: l) σ Q := fun Φ P K E F ok k => by
  rw [List.forIn_cons]
  refine wpAny_bind ?_
  show wpAny _ _ (isTrue e Φ.env (eval e Φ.env) >>= fun ok => pure (ForInStep.yield ok)) _ _ _
  refine wpAny_bind (h Φ P _ E F ok fun P1 c σ1 l1 ok1 z => wpAny_pure ?_)
  cases c with
  | true => exact z.1 rfl Φ P1 K E F ok1 fun P2 b σ2 l2 => k P2 b σ2 (l1.trans l2)
  | false =>
    show wpAny _ _ (forIn l false (testBody Φ.env)) _ _ _
    rw [forIn_off]
    exact wpAny_pure (k P1 false σ1 l1 ok1 (z.2 rfl))
theorem put_hide (h : own D = none) : (Φ.hide own).put D acc = (Φ.put D acc).hide own := by
  unfold Fm.put Fm.hide
  refine congrArg (Fm.mk Φ.C Φ.A Φ.env Φ.fr) (funext fun a => ?_)
  unfold upd
  by_cases ha : a = D
  · rw [if_pos ha, ha, h]; exact (if_pos rfl).symm
  · rw [if_neg ha]; exact congrArg ((Option.map AObj.raw (own a)).or ·) (if_neg ha).symm
theorem FrOk.put (F : FrOk Φ fs) (h : NewD Φ D) : FrOk (Φ.put D acc) fs := { F with
  fk := fun env he => let ⟨a, L, b, c, d⟩ := F.fk env he; ⟨a, L, b, c, d.imp id fun ⟨ns, e⟩ => ⟨ns, (upd_ne fun z => nos (h.1.symm.trans (z ▸ e))).trans e⟩⟩
  tabs := fun p hp => let ⟨ps, e⟩ := F.tabs p hp; ⟨ps, (upd_ne fun z => nos (h.1.symm.trans (z ▸ e))).trans e⟩
  kl := (upd_ne (Ne.symm h.2.1)).trans F.kl }
theorem Ok.putH (ok : Ok (Φ.put D acc) σ P) : σ.H D = none := by
  cases q : σ.H D with
  | none => rfl
  | some ob => exact son ((show upd Φ.K D (.list acc) D = some (.list acc) from upd_same).symm.trans (ok.dj D ob q).1)
theorem Ok.putAt (ok : Ok (Φ.put D acc) σ P) (h : NewD Φ D) : (Φ.put D acc).map σ D = some (.list acc) := by
  rw [map_N (show D ≠ (Φ.put D acc).env.locals from h.2.1), ok.putH]; exact upd_same
theorem Ok.putSet (ok : Ok (Φ.put D acc) σ P) (h : NewD Φ D) {h' : Heap} {tk : Nat} {o' : Obj} (hb : Heap.SameBut D P.s.heap h') (ho : h'.get? D = some o') (q : OP Φ.C P (.list acc') o') : Ok (Φ.put D acc') σ (P.wr h' tk) ∧ Le P (P.wr h' tk) :=
  let ⟨x, y⟩ := ok.m.set (tk := tk) (ok.putAt h) hb.2 ho q
  ⟨⟨x.sub fun b ob e => by
    by_cases hD : b = D
    · rw [hD] at e ⊢
      rw [map_N (show D ≠ (Φ.put D acc').env.locals from h.2.1), ok.putH] at e
      exact upd_same.trans ((show upd Φ.K D (.list acc') D = some (.list acc') from upd_same).symm.trans e)
    · rw [upd_ne hD]
      by_cases hL : b = Φ.env.locals
      · rw [hL] at e ⊢; exact (map_L (Φ := Φ.put D acc)).trans ((map_L (Φ := Φ.put D acc')).symm.trans e)
      · rw [map_N (show b ≠ (Φ.put D acc').env.locals from hL), show (Φ.put D acc').K b = Φ.K b from upd_ne hD] at e
        rw [map_N (show b ≠ (Φ.put D acc).env.locals from hL), show (Φ.put D acc).K b = Φ.K b from upd_ne hD]; exact e,
   fun b ob e => by
    have d := ok.dj b ob e
    refine ⟨?_, d.2⟩
    by_cases hD : b = D
    · exact son (e.symm.trans (hD ▸ ok.putH))
    · exact (upd_ne hD).trans ((upd_ne hD).symm.trans d.1)⟩, y⟩
theorem em_last (h : We fs elt σ fun y s => acc.length < lim ∧ Ql (acc ++ [y]) s) : Wem fs elt [] acc σ Ql := fun Φ P D K E gens d scope pos F nd hd hp ok k => by
  have hg : gens[d + 1]? = none := List.getElem?_eq_none_iff.mpr (List.drop_eq_nil_iff.mp hd)
  rw [hg]
  refine h (Φ.put D acc) P _ E (F.put nd) ok fun P1 x y σ1 l1 ok1 r1 ⟨hl, q⟩ => ?_
  obtain ⟨_, _, o, e, its, n, rfl, rs⟩ := ok1.m.objs _ _ (ok1.putAt nd)
  refine wpAny_list_append_plain ⟨n, e⟩ (fun h' ⟨n', hp⟩ hs => ?_) (by rw [rs.size]; exact lim_size (Nat.le_of_lt hl))
  obtain ⟨ok2, l2⟩ := ok1.putSet (tk := P1.s.toks) nd hs hp (acc' := acc ++ [y]) ⟨_, n', rfl, pushed rs r1⟩
  exact k _ _ σ1 (l1.trans l2) ok2 q
theorem comp_turns {gens : List Comprehension} {d : Nat} {scope : Scope} {pos : Pos} (hg : gens[d]? = some g) (hgs : gens.drop (d + 1) = gs) (hp : gens.all plainGen = true) (hna : g.is_async = 0) (F : FrOk Φ fs) (nd : NewD Φ D) {I : Addr} {vs : List AV} {dom : St → Prop} {S : Nat → Own → Prop} {P1 : Pt}
    (hc : Wcl fs elt g gs vs dom acc σ Ql) (it : Itr P1 g.target I vs dom S) (ok : Ok ((Φ.put D acc).hide own) σ P) (fr : Fre Φ own) (hD : own D = none) (s0 : S 0 own) (l1 : Le P1 P) {R : Result → Shared → Prop}
    (k : ∀ P' acc' σ', Le P P' → Ok (Φ.put D acc') σ' P' → Ql acc' σ' → R (.ok .next) P'.s) : codeAny Φ.M Φ.A (.compLoop (.ListComp elt gens scope pos) d (.ref I) (.ref D) Φ.env) R P.s := by
  obtain ⟨J, h0, hd, hs, he⟩ := hc
  have frp : ∀ {own : Own} {acc}, Fre Φ own → own D = none → Fre (Φ.put D acc) own := fun fr hD a o e => let ⟨x, y, z⟩ := fr a o e; ⟨(upd_ne fun z => nos (hD.symm.trans (z ▸ e))).trans x, y, z⟩
  refine compLoop_any hg hna (fun m s' => ∃ i σi Pi own acc, m = vs.length - i ∧ i ≤ vs.length ∧ s' = Pi.s ∧ Le P Pi ∧ Ok ((Φ.put D acc).hide own) σi Pi ∧ Fre Φ own ∧ own D = none ∧ S i own ∧ J i acc σi) (fun m s₂ hI => ?_) vs.length ⟨0, σ, P, own, acc, rfl, Nat.zero_le _, rfl, Le.refl, ok, fr, hD, s0, h0⟩
  clear ok fr hD s0 h0
  obtain ⟨i, σi, Pi, own, acc, rfl, hi, rfl, li, oki, fri, hD, si, ji⟩ := hI
  refine it.draw (Φ := Φ.put D acc) F.handled (l1.trans li) oki (frp fri hD) si (hd i acc σi ji) hi (fun hn h' tk off => ?_) fun v hv x s₁ lo => lo _ _ fun h' tk own' off has sm si' rx => ?_
  · have hin : i = vs.length := Nat.le_antisymm hi (List.getElem?_eq_none_iff.mp hn)
    obtain ⟨ok2, l2⟩ := oki.leave (tk := tk) (frp fri hD) off
    exact k _ acc σi (li.trans l2) ok2 (he acc σi (hin ▸ ji))
  · obtain ⟨ok2, l2⟩ := oki.own (tk := tk) (frp fri hD) off has sm
    have fr2 := fri.same sm
    have hD2 : own' D = none := (sm D).mp hD
    have nd2 : NewD (Φ.hide own') D := ⟨(hide_none hD2).trans nd.1, nd.2⟩
    have F1 := F.hide fr2
    have F2 : FrOk ((Φ.hide own').put D acc) fs := F1.put nd2
    rw [← put_hide hD2] at ok2
    have go : ∀ {acc4 σ4 P4}, J (i + 1) acc4 σ4 → Le P P4 → Ok ((Φ.hide own').put D acc4) σ4 P4 → ∃ m, m < vs.length - i ∧ ∃ i σi Pi own acc, m = vs.length - i ∧ i ≤ vs.length ∧ P4.s = Pi.s ∧ Le P Pi ∧ Ok ((Φ.put D acc).hide own) σi Pi ∧ Fre Φ own ∧ own D = none ∧ S i own ∧ J i acc σi := fun z l4 ok4 =>
      have hlt := (List.getElem?_eq_some_iff.mp hv).1
      ⟨_, Nat.sub_lt_sub_left hlt (Nat.lt_succ_self i), i + 1, _, _, own', _, rfl, hlt, rfl, l4, put_hide hD2 ▸ ok4, fr2, hD2, si', z⟩
    refine hs i v acc σi hv ji ((Φ.hide own').put D acc) _ x _ _ F2 ok2 rx fun P3 σ3 l3 ok3 z => z ((Φ.hide own').put D acc) P3 _ _ F2 ok3 fun P4 c σ4 l4 ok4 z => ?_
    have l14 := li.trans (l2.trans (l3.trans l4))
    cases c with
    | false =>
      rw [if_neg Bool.false_ne_true]
      exact go (z.2 rfl) l14 ok4
    | true =>
      rw [if_pos rfl]
      exact z.1 rfl (Φ.hide own') P4 D (fun s' => ∃ m, m < vs.length - i ∧ _) _ gens d scope pos F1 nd2 hgs hp ok4 fun P5 acc5 σ5 l5 ok5 z => go z (l14.trans l5) ok5
theorem em_more {g' : Comprehension} (h : Wi fs g'.target g'.iter σ fun vs dom s => Wcl fs elt g' gs vs dom acc s Ql) : Wem fs elt (g' :: gs) acc σ Ql := fun Φ P D K E gens d scope pos F nd hd hp ok k => by
  have hg : gens[d + 1]? = some g' := by have := congrArg (·[0]?) hd; rw [List.getElem?_drop] at this; exact this
  have hd' : gens.drop (d + 1 + 1) = gs := by rw [← List.drop_drop, hd]; rfl
  have hna : g'.is_async = 0 := eq_of_beq (List.all_eq_true.mp hp g' (List.mem_of_getElem? hg))
  rw [hg]
  dsimp only
  have hai := h.2 (Φ.put D acc) P (fun i s₆ => wpAny Φ.M Φ.A (runOwn (.compStart (.ListComp elt gens scope pos) (d + 1) i (.ref D) Φ.env) Φ.env) (fun _ s₇ => K s₇) E s₆) E (F.put nd) ok fun P1 I own S vs dom σ1 l1 ok1 fr it s0 hc => by
    have hD : own D = none := by
      rcases none_or (own D) with h | ⟨o, h⟩
      · exact h
      · exact son ((show upd Φ.K D (.list acc) D = some (.list acc) from upd_same).symm.trans (fr D o h).1)
    have fr0 : Fre Φ own := fun a o e => let ⟨x, y, z⟩ := fr a o e; ⟨(upd_ne fun z => nos (hD.symm.trans (z ▸ e))).symm.trans x, y, z⟩
    refine wpAny_runOwn ?_
    show codeAny _ Φ.A _ _ _
    have run : codeAny Φ.M Φ.A (.compLoop (.ListComp elt gens scope pos) (d + 1) (.ref I) (.ref D) Φ.env) (fun r s' => match r with | .ok f => (fun _ s₇ => K s₇) f s' | .error e => cameBackBy Φ.M Φ.A Φ.env E e s') P1.s :=
      comp_turns hg hd' hp hna F nd hc it ok1 fr0 hD s0 Le.refl fun P2 acc2 σ2 l2 ok2 q => k P2 acc2 σ2 (l1.trans l2) ok2 q
    exact compStart_any hg hna run (it.self (Φ := Φ.put D acc) F.handled Le.refl ok1 fr s0 run)
  exact wpAny_mono hai (fun x s₅ h₅ => ⟨h.1 _, hna, h₅⟩) fun _ _ e => e
end
end Mine
end
section
namespace Mine
open PySem PySem.W PyProof.Rows PySem.Calls PySem.SeqAt
noncomputable def SubH (H H' : Addr → Option AObj) : Prop := ∀ a ob, H a = some ob → H' a = some ob
noncomputable abbrev Pt.fr (P : Pt) (a : Addr) : Pt := ⟨P.s, fun b => P.im b ∨ b = a⟩
section
variable {C : Cx} {m m' : Addr → Option AObj} {P : Pt} {a D : Addr} {h' : Heap} {tk : Nat} {Φ : Fm} {σ : St} {vs acc : List AV} {fs : FS}
theorem fr_le : Le P (P.fr a) := ⟨fun _ e => e, fun i => .inl i⟩
theorem Okm.freeze (k : Okm C m P) (e : m a = some (.list vs)) (h : ∀ b ob, m' b = some ob → b ≠ a ∧ m b = some ob) : Okm C m' (P.fr a) ∧ VR (P.fr a) (.lst vs) (.ref a) := by
  obtain ⟨x, y, o, g, its, n, rfl, rs⟩ := k.objs a _ e
  refine ⟨⟨fun b o e => ⟨(k.base b o e).1, .inl (k.base b o e).2⟩, fun b i => i.elim (k.al b) fun z => ⟨_, z ▸ g⟩, fun b ob e => ?_, k.gens, k.os⟩, .lst ⟨_, g, rfl, n, rfl⟩ (.inr rfl) (rs.le fr_le)⟩
  obtain ⟨p, q, o, r, s⟩ := k.objs b ob (h b ob e).2
  exact ⟨fun i => i.elim p (h b ob e).1, q, o, r, s.le fr_le⟩
theorem Okm.junk (k : Okm C m P) (hm : m a = none) (hi : ¬ P.im a) (hb : ∀ b, b ≠ a → h'.get? b = P.s.heap.get? b) : Okm C m (P.wr h' tk) ∧ Le P (P.wr h' tk) := by
  have le : Le P (P.wr h' tk) := ⟨fun {b o} i e => (hb b fun z => hi (z ▸ i)).trans e, fun i => i⟩
  exact ⟨⟨fun b o e => ⟨le.keep (k.base b o e).2 (k.base b o e).1, (k.base b o e).2⟩, fun b i => (k.al b i).imp fun o e => le.keep i e, fun b ob e => let ⟨x, y, o, z, w⟩ := k.objs b ob e; ⟨x, y, o, (hb b fun q => nos (hm.symm.trans (q ▸ e))).trans z, w.le le⟩, k.gens, k.os⟩, le⟩
theorem Ok.putFreeze (ok : Ok (Φ.put D acc) σ P) (nd : NewD Φ D) : Ok Φ σ (P.fr D) ∧ VR (P.fr D) (.lst acc) (.ref D) :=
  let ⟨x, y⟩ := ok.m.freeze (m' := Φ.map σ) (ok.putAt nd) fun b ob e => by
    have hD : b ≠ D := fun z => by rw [z, map_N nd.2.1, ok.putH, nd.1] at e; exact nos e
    refine ⟨hD, ?_⟩
    by_cases hL : b = Φ.env.locals
    · rw [hL] at e ⊢; exact (map_L (Φ := Φ.put D acc)).trans ((map_L (Φ := Φ)).symm.trans e)
    · rw [map_N hL] at e
      rw [map_N (show b ≠ (Φ.put D acc).env.locals from hL), show (Φ.put D acc).K b = Φ.K b from upd_ne hD]; exact e
  ⟨⟨x, fun b ob e => by
    have d := ok.dj b ob e
    have hD : b ≠ D := fun z => nos (ok.putH.symm.trans (z ▸ e))
    exact ⟨(upd_ne hD).symm.trans d.1, d.2⟩⟩, y⟩
theorem Ok.putAdopt (ok : Ok (Φ.put D acc) σ P) (nd : NewD Φ D) : Ok Φ (σ.set D (.list acc)) P ∧ σ.H D = none := by
  refine ⟨⟨ok.m.sub fun b ob e => ?_, fun b ob e => ?_⟩, ok.putH⟩
  · by_cases hD : b = D
    · rw [hD] at e ⊢
      rw [map_N nd.2.1, show (σ.set D (.list acc)).H D = some (.list acc) from upd_same] at e
      exact (ok.putAt nd).trans e
    · by_cases hL : b = Φ.env.locals
      · rw [hL] at e ⊢; exact (map_L (Φ := Φ.put D acc)).trans ((map_L (Φ := Φ) (σ := σ.set D (.list acc))).symm.trans e)
      · rw [map_N hL, show (σ.set D (.list acc)).H b = σ.H b from upd_ne hD] at e
        rw [map_N (show b ≠ (Φ.put D acc).env.locals from hL), show (Φ.put D acc).K b = Φ.K b from upd_ne hD]; exact e
  · by_cases hD : b = D
    · rw [hD]; exact ⟨nd.1, nd.2.1⟩
    · rw [show (σ.set D (.list acc)).H b = σ.H b from upd_ne hD] at e
      have d := ok.dj b ob e
      exact ⟨(upd_ne hD).symm.trans d.1, d.2⟩
noncomputable def CompEnd (Φ : Fm) (Q : List AV → St → Prop) (P : Pt) (D Lc : Addr) (s' : Shared) : Prop :=
  ∃ P' acc σ', s' = P'.s ∧ Le P P' ∧ Ok (Φ.put D acc) σ' P' ∧ Q acc σ' ∧ NewD Φ D ∧ (∃ m, P'.s.heap.Ns Lc m) ∧ ¬ P'.im Lc ∧ NewD Φ Lc ∧ σ'.H Lc = none ∧ Lc ≠ D
noncomputable def cellNames (sc : Scope) : List Str := (sc.names.filter fun p => p.2 == .cell).map (·.1)
theorem addC_lt {H : Addr → Option AObj} {base : Nat} {cs : List AObj} (h : a < base) : addC H base cs a = H a := if_neg (Nat.not_le.mpr h)
theorem addC_ge {H : Addr → Option AObj} {base : Nat} {cs : List AObj} (h : base ≤ a) : addC H base cs a = (cs[a - base]?).or (H a) := if_pos h
theorem cell_some {α β : Type} {l : List α} {c o : β} {i : Nat} (h : (l.map fun _ => c)[i]? = some o) : i < l.length ∧ o = c := by
  rw [List.getElem?_map] at h
  obtain ⟨z, hz, e⟩ := Option.map_eq_some_iff.mp h
  exact ⟨(List.getElem?_eq_some_iff.mp hz).1, e.symm⟩
noncomputable def compHeap (h : Heap) (sc : Scope) : Heap := pushCells ((h.push { cls := .type "list", data := .seq #[] }).push { cls := .type "dict", data := .dict #[] }) sc.names
theorem compHeap_keep {h : Heap} {sc : Scope} : ∀ b o, h.get? b = some o → (compHeap h sc).get? b = some o := fun b o e => pushCells_keeps _ _ b o (keep_push _ _ _ _ (keep_push _ _ _ _ e))
noncomputable def Fm.comp (Φ : Fm) (ns : List (Str × AV)) (sc : Scope) (Lc : Addr) : Fm := { Φ with env := { compEnv2 sc Lc (closC Φ.env.cells sc.names []) Φ.env with scope := relabel sc Φ.env }, K := upd Φ.K Φ.env.locals (.loc ns) }
theorem comp_entry {own : Own} {sc : Scope} (F : CxOk Φ.C) (ok : Ok (Φ.hide own) σ P) (fr : Fre Φ own) (kl : Φ.K Φ.env.locals = none) : let D := P.s.heap.objs.size; let P3 := P.up (compHeap P.s.heap sc) P.s.toks (D ≤ ·);
    Ok (((Φ.comp σ.ns sc (D + 1)).put D []).hide own) ⟨addC σ.H (D + 2) ((cellNames sc).map fun _ => .cell none), []⟩ P3 ∧ Le P P3 ∧ NewD (Φ.comp σ.ns sc (D + 1)) D ∧ NewD Φ D ∧ NewD Φ (D + 1) ∧ Fre (Φ.comp σ.ns sc (D + 1)) own ∧ own D = none ∧ own (D + 1) = none := by
  intro D P3
  have dead : ∀ a, D ≤ a → σ.H a = none ∧ Φ.K a = none ∧ own a = none ∧ a ≠ Φ.env.locals ∧ a ≠ sysModules := fun a ha => by
    obtain ⟨x, y, z⟩ := ok.dead (get_size1 ha)
    have hn : own a = none := by
      rcases none_or (own a) with h | ⟨o, h⟩
      · exact h
      · exact son ((hide_some (Φ := Φ) h).symm.trans y)
    exact ⟨x, (hide_none hn).symm.trans y, hn, z, size_sys (Φ := Φ.hide own) F ok ha⟩
  have hsz : ((P.s.heap.push { cls := .type "list", data := .seq #[] }).push { cls := .type "dict", data := .dict #[] }).objs.size = D + 2 := by rw [Heap.size_push, Heap.size_push]
  have ne : ∀ {a}, a < D → a ≠ D + 1 ∧ a ≠ D := fun h => ⟨Nat.ne_of_lt (Nat.lt_succ_of_lt h), Nat.ne_of_lt h⟩
  have hLc : Φ.env.locals ≠ D + 1 := fun z => (dead (D + 1) (Nat.le_succ _)).2.2.2.1 z.symm
  have hLD : Φ.env.locals ≠ D := fun z => (dead D (Nat.le_refl _)).2.2.2.1 z.symm
  have nd : NewD (Φ.comp σ.ns sc (D + 1)) D := ⟨(upd_ne (Ne.symm hLD)).trans (dead D (Nat.le_refl _)).2.1, (Nat.ne_of_lt (Nat.lt_succ_self D)), (dead D (Nat.le_refl _)).2.2.2.2⟩
  have frc : Fre (Φ.comp σ.ns sc (D + 1)) own := fun a o e => by
    obtain ⟨x, y, z⟩ := fr a o e
    exact ⟨(upd_ne y).trans x, fun q => son (e.symm.trans (q ▸ (dead (D + 1) (Nat.le_succ _)).2.2.1)), z⟩
  have hK : ∀ a, a ≠ D → a ≠ Φ.env.locals → (((Φ.comp σ.ns sc (D + 1)).put D []).hide own).K a = (Φ.hide own).K a := fun a h1 h2 => congrArg ((Option.map AObj.raw (own a)).or ·) ((upd_ne h1).trans (upd_ne h2))
  refine ⟨⟨ok.m.up compHeap_keep fun a ob e => ?_, fun a ob e => ?_⟩, up_le compHeap_keep, nd, ⟨(dead D (Nat.le_refl _)).2.1, (dead D (Nat.le_refl _)).2.2.2⟩, ⟨(dead (D + 1) (Nat.le_succ _)).2.1, (dead (D + 1) (Nat.le_succ _)).2.2.2⟩, frc, (dead D (Nat.le_refl _)).2.2.1, (dead (D + 1) (Nat.le_succ _)).2.2.1⟩
  · by_cases hlt : a < D
    · refine .inl ?_
      obtain ⟨n1, n2⟩ := ne hlt
      rw [map_N (show a ≠ (((Φ.comp σ.ns sc (D + 1)).put D []).hide own).env.locals from n1), show (⟨addC σ.H (D + 2) ((cellNames sc).map fun _ => .cell none), []⟩ : St).H a = σ.H a from addC_lt (Nat.lt_of_lt_of_le hlt (Nat.le_add_right _ 2))] at e
      by_cases hL : a = Φ.env.locals
      · have hH : σ.H a = none := by
          cases q : σ.H a with
          | none => rfl
          | some ob => exact absurd hL (ok.dj a ob q).2
        have ho : own a = none := by
          rcases none_or (own a) with h | ⟨o, h⟩
          · exact h
          · exact absurd hL (fr a o h).2.1
        rw [hH, hide_none ho, show ((Φ.comp σ.ns sc (D + 1)).put D []).K a = some (.loc σ.ns) from (upd_ne n2).trans (hL ▸ upd_same)] at e
        rw [hL]; exact (map_L (Φ := Φ.hide own)).trans e
      · rw [hK a n2 hL] at e
        rw [map_N (show a ≠ (Φ.hide own).env.locals from hL)]; exact e
    · have hge := Nat.le_of_not_lt hlt
      obtain ⟨d1, d2, d3, d4, d5⟩ := dead a hge
      refine .inr ⟨hge, get_size1 hge, d5, ?_⟩
      by_cases h1 : a = D + 1
      · rw [h1] at e ⊢
        have e := smj ((map_L (Φ := ((Φ.comp σ.ns sc (D + 1)).put D []).hide own)).symm.trans e)
        subst e
        refine ⟨_, pushCells_keeps _ _ _ _ (by rw [show D + 1 = (P.s.heap.push { cls := .type "list", data := .seq #[] }).objs.size from (Heap.size_push ..).symm]; exact Heap.get?_push_size _ rfl), _, ⟨#[], 0, rfl, fun e he => absurd he (Array.not_mem_empty e), fun _ => rfl⟩, nofun⟩
      · rw [map_N (show a ≠ (((Φ.comp σ.ns sc (D + 1)).put D []).hide own).env.locals from h1)] at e
        by_cases h2 : a = D
        · rw [h2] at e ⊢
          rw [show (⟨addC σ.H (D + 2) ((cellNames sc).map fun _ => .cell none), []⟩ : St).H D = none from (addC_lt (Nat.lt_add_of_pos_right (by decide))).trans (dead D (Nat.le_refl _)).1, hide_none (dead D (Nat.le_refl _)).2.2.1, show ((Φ.comp σ.ns sc (D + 1)).put D []).K D = some (.list []) from upd_same] at e
          have e := smj (show some (AObj.list []) = some ob from e)
          subst e
          exact ⟨_, pushCells_keeps _ _ _ _ (keep_push _ _ _ _ (Heap.get?_push_size _ rfl)), #[], 0, rfl, .nil⟩
        · have h3 : D + 2 ≤ a := Nat.lt_of_le_of_ne (Nat.lt_of_le_of_ne hge (Ne.symm h2)) (Ne.symm h1)
          rw [hK a h2 d4, hide_none d3, d2, show (⟨addC σ.H (D + 2) ((cellNames sc).map fun _ => .cell none), []⟩ : St).H a = _ from addC_ge h3, d1] at e
          rw [Option.or_none, Option.or_none] at e
          obtain ⟨hi, rfl⟩ := cell_some e
          obtain ⟨o, ho, hd⟩ := pushCells_new sc.names ((P.s.heap.push { cls := .type "list", data := .seq #[] }).push { cls := .type "dict", data := .dict #[] }) (a - (D + 2)) (by unfold cellNames at hi; rw [List.length_map] at hi; exact hi)
          rw [hsz, Nat.add_sub_cancel' h3] at ho
          exact ⟨o, ho, _, hd, nofun⟩
  · by_cases hlt : a < D
    · obtain ⟨n1, n2⟩ := ne hlt
      rw [show (⟨addC σ.H (D + 2) ((cellNames sc).map fun _ => .cell none), []⟩ : St).H a = σ.H a from addC_lt (Nat.lt_of_lt_of_le hlt (Nat.le_add_right _ 2))] at e
      have d := ok.dj a ob e
      exact ⟨(hK a n2 d.2).trans d.1, n1⟩
    · have hge := Nat.le_of_not_lt hlt
      obtain ⟨d1, d2, d3, d4, d5⟩ := dead a hge
      have h3 : D + 2 ≤ a := Nat.le_of_not_lt fun h3 => by
        rw [show (⟨addC σ.H (D + 2) ((cellNames sc).map fun _ => .cell none), []⟩ : St).H a = σ.H a from addC_lt h3, d1] at e; exact nos e
      have h1 : a ≠ D + 1 := Nat.ne_of_gt h3
      have h2 : a ≠ D := Nat.ne_of_gt (Nat.lt_of_succ_lt h3)
      exact ⟨(hK a h2 d4).trans ((hide_none d3).trans d2), h1⟩
variable {elt : Expr} {gens gs : List Comprehension} {g : Comprehension} {sc : Scope} {Q : List AV → St → Prop} {base : Nat}
theorem comp_exit {ns : List (Str × AV)} {Lc : Addr} {H : Addr → Option AObj} (ok : Ok ((Φ.comp ns sc Lc).put D acc) σ P) (nd : NewD Φ D) (nl : NewD Φ Lc) (hne : Lc ≠ D) (hH : SubH H σ.H) : Ok (Φ.put D acc) ⟨H, ns⟩ P ∧ ¬ P.im Lc ∧ H Lc = none := by
  have hK : ∀ b, b ≠ Φ.env.locals → ((Φ.comp ns sc Lc).put D acc).K b = (Φ.put D acc).K b := fun b h => by
    by_cases hD : b = D
    · rw [hD]; exact upd_same.trans (show some (AObj.list acc) = upd Φ.K D (.list acc) D from upd_same.symm)
    · exact (upd_ne hD).trans ((upd_ne h).trans (upd_ne hD).symm)
  have hKL : ((Φ.comp ns sc Lc).put D acc).K Φ.env.locals = some (.loc ns) := (upd_ne (Ne.symm nd.2.1)).trans upd_same
  have hL : ∀ b ob, σ.H b = some ob → b ≠ Φ.env.locals := fun b ob e z => son (hKL.symm.trans (z ▸ (ok.dj b ob e).1))
  have sub : ∀ {b ob}, H b = some ob → σ.H b = some ob := fun e => hH _ _ e
  refine ⟨⟨ok.m.sub fun b ob e => ?_, fun b ob e => ?_⟩, (ok.m.objs _ _ (map_L (Φ := (Φ.comp ns sc Lc).put D acc))).1, ?_⟩
  · by_cases hbL : b = Φ.env.locals
    · rw [hbL] at e ⊢
      have hn : σ.H Φ.env.locals = none := by
        cases q : σ.H Φ.env.locals with
        | none => rfl
        | some ob => exact absurd rfl (hL _ ob q)
      rw [map_N (show Φ.env.locals ≠ ((Φ.comp ns sc Lc).put D acc).env.locals from Ne.symm nl.2.1), hn, hKL]
      exact (map_L (Φ := Φ.put D acc) (σ := ⟨H, ns⟩)).symm.trans e
    · rw [map_N (show b ≠ (Φ.put D acc).env.locals from hbL)] at e
      cases q : H b with
      | some ob' =>
        rw [show (⟨H, ns⟩ : St).H b = some ob' from q] at e
        rw [map_N (show b ≠ ((Φ.comp ns sc Lc).put D acc).env.locals from (ok.dj b ob' (sub q)).2), sub q]; exact e
      | none =>
        rw [show (⟨H, ns⟩ : St).H b = none from q] at e
        have e : (Φ.put D acc).K b = some ob := e
        have hb : b ≠ Lc := fun z => by rw [z] at e; exact nos (((upd_ne hne).trans nl.1).symm.trans e)
        have hn : σ.H b = none := by
          cases q : σ.H b with
          | none => rfl
          | some ob' => exact son (((hK b hbL).trans e).symm.trans (ok.dj b ob' q).1)
        rw [map_N (show b ≠ ((Φ.comp ns sc Lc).put D acc).env.locals from hb), hn, hK b hbL]; exact e
  · have d := ok.dj b ob (sub e)
    exact ⟨(hK b (hL b ob (sub e))).symm.trans d.1, hL b ob (sub e)⟩
  · cases q : H Lc with
    | none => rfl
    | some ob => exact absurd rfl (ok.dj Lc ob (sub q)).2
noncomputable def Wco (fs : FS) (elt : Expr) (gens : List Comprehension) (sc : Scope) (σ : St) (Q : List AV → St → Prop) : Prop :=
  ∀ (Φ : Fm) (P : Pt) (pos : Pos) (use : Option (Value → Sem Unit)) (K : Value → Shared → Prop) (E : Value → Shared → Prop), FrOk Φ fs → Ok Φ σ P → (∀ D Lc s', CompEnd Φ Q P D Lc s' → compPost Φ.M Φ.A E use K (.ref D) Lc (.ok .next) s') →
    wpAny Φ.M Φ.A (comprehension (.ListComp elt gens sc pos) sc Φ.env (firstIterPos gens pos) (newList []) (firstAsync gens) (firstIter gens Φ.env) use) K E P.s
theorem c_comp (hp : (g :: gs).all plainGen = true) (hgc : goodComp sc fs.cells = true) (h : Wi fs g.target g.iter σ fun vs dom s => ∀ base, (∀ a, base ≤ a → s.H a = none) → Wcl (compFs fs sc base) elt g gs vs dom [] ⟨addC s.H base ((cellNames sc).map fun _ => .cell none), []⟩ fun acc s' => ∃ H, SubH H s'.H ∧ Q acc ⟨H, s.ns⟩) :
    Wco fs elt (g :: gs) sc σ Q := fun Φ P pos use K E F ok k => by
  unfold goodComp at hgc
  rw [Bool.and_eq_true, Bool.and_eq_true] at hgc
  obtain ⟨⟨hk1, hk2⟩, hk3⟩ := hgc
  have hkind : sc.kind = .function := eq_of_beq hk1
  have hna : g.is_async = 0 := eq_of_beq (List.all_eq_true.mp hp g List.mem_cons_self)
  have hfa : ∀ p ∈ sc.names, p.2 = .free → ∃ l, fs.cells.lookup p.1 = some l ∧ Φ.env.cells.lookup p.1 = some l := fun p hp hf => by
    have := List.all_eq_true.mp hk3 p hp
    rw [hf] at this
    obtain ⟨l, hl⟩ := Option.isSome_iff_exists.mp (show (fs.cells.lookup p.1).isSome = true from this)
    exact ⟨l, hl, F.cells _ _ hl⟩
  have hcl : closC fs.cells sc.names [] = closC Φ.env.cells sc.names [] := closC_congr _ _ fun p hp hf => let ⟨l, a, b⟩ := hfa p hp hf; a.trans b.symm
  have hfree : ∀ p ∈ sc.names, p.2 = .free → (Φ.env.cells.lookup p.1).isSome = true := fun p hp hf => let ⟨l, a, b⟩ := hfa p hp hf; by rw [b]; rfl
  have hnames : ∀ x ∈ sc.names, x.2 = .local → sc.names.lookup x.1 = some .local := fun p hp hf => by
    have := List.all_eq_true.mp hk2 p hp
    rw [hf] at this
    exact eq_of_beq this
  rw [show firstAsync (g :: gs) = false by cases g; show (_ != 0) = false; dsimp only at hna; rw [hna]; rfl, show firstIter (g :: gs) Φ.env = eval g.iter Φ.env by cases g; rfl]
  have hai := h.2 Φ P (fun it s₂ => wpAny Φ.M Φ.A (newList []) (fun acc s₃ => wpAny Φ.M Φ.A (newFunctionEnv sc Φ.env.globals (closC Φ.env.cells sc.names []) [] Φ.env.qual none .none (some Φ.env)) (fun cenv s₄ =>
        codeAny Φ.M Φ.A (.compStart (.ListComp elt (g :: gs) sc pos) 0 it acc { cenv with scope := relabel sc Φ.env }) (compPost Φ.M Φ.A E use K acc cenv.locals) s₄) E s₃) E s₂) E F ok fun P1 I own S vs dom σ1 l1 ok1 fr it s0 hc => by
    have kl : Φ.K Φ.env.locals = none := F.kl
    obtain ⟨ok2, l2, nd, ndD, ndL, frc, oD, oL⟩ := comp_entry (sc := sc) F.cx ok1 fr kl
    refine wpAny_newObj_type (wpAny_newComp ?_) (by size_fits)
    dsimp only
    rw [show (P1.s.heap.push { cls := .type "list", data := .seq #[] }).objs.size = P1.s.heap.objs.size + 1 from Heap.size_push ..]
    have Fc : FrOk (Φ.comp σ1.ns sc (P1.s.heap.objs.size + 1)) (compFs fs sc (P1.s.heap.objs.size + 2)) := { F with
      scope := show relabel sc Φ.env = relabel' sc fs.scope by unfold relabel relabel' Env.kindOf; rw [F.scope]
      kind := hkind
      cells := fun x l e => by
        have e : (cellsFrom (P1.s.heap.objs.size + 2) sc.names (closC fs.cells sc.names [])).lookup x = some l := e
        rw [hcl] at e; exact e
      kl := (upd_ne ndL.2.1).trans ndL.1
      fk := fun env he => let ⟨a, L, b, c, d⟩ := F.fk env he; ⟨a, L, b, c, .inr (d.elim (fun d => ⟨σ1.ns, d ▸ upd_same⟩) fun ⟨ns, e⟩ => ⟨ns, (upd_ne fun z => nos (kl.symm.trans (z ▸ e))).trans e⟩)⟩
      tabs := fun p hp => let ⟨ps, e⟩ := F.tabs p hp; ⟨ps, (upd_ne fun z => nos (kl.symm.trans (z ▸ e))).trans e⟩ }
    have run : codeAny Φ.M Φ.A (.compLoop (.ListComp elt (g :: gs) sc pos) 0 (.ref I) (.ref P1.s.heap.objs.size) (Φ.comp σ1.ns sc (P1.s.heap.objs.size + 1)).env) (compPost Φ.M Φ.A E use K (.ref P1.s.heap.objs.size) (P1.s.heap.objs.size + 1)) { P1.s with heap := compHeap P1.s.heap sc, toks := P1.s.toks } := by
      refine comp_turns (Φ := Φ.comp σ1.ns sc (P1.s.heap.objs.size + 1)) (gens := g :: gs) (d := 0) rfl rfl hp hna Fc nd (hc _ fun a ha => (ok1.dead (get_size1 (Nat.le_trans (Nat.le_add_right _ 2) ha))).1) it ok2 frc oD s0 l2 fun P3 acc σ3 l3 ok3 ⟨H, hH, q⟩ => ?_
      obtain ⟨x1, x2, x3⟩ := comp_exit ok3 ndD ndL (Nat.succ_ne_self _) hH
      exact k _ _ _ ⟨P3, acc, ⟨H, σ1.ns⟩, rfl, l1.trans (l2.trans l3), x1, q, ndD, (let ⟨m, e, _⟩ := ns_at ok3; ⟨m, e⟩), x2, ndL, x3, Nat.succ_ne_self _⟩
    exact compStart_any rfl hna run (it.self (Φ := (Φ.comp σ1.ns sc (P1.s.heap.objs.size + 1)).put P1.s.heap.objs.size []) F.handled l2 ok2 (fun a o e => let ⟨x, y, z⟩ := frc a o e; ⟨(upd_ne fun q => nos (oD.symm.trans (q ▸ e))).trans x, y, z⟩) s0 run)
  exact wpAny_comprehension_free rfl (h.1 _) (closureFor_eq hfree) hkind hnames hai
theorem CompEnd.close {Lc : Addr} {s' : Shared} (h : CompEnd Φ Q P D Lc s') {R : Prop} (k : (∃ m, s'.heap.Ns Lc m) → (∀ h', Heap.SameBut Lc s'.heap h' → ∃ P' acc σ', Le P P' ∧ Ok (Φ.put D acc) σ' P' ∧ Q acc σ' ∧ NewD Φ D ∧ P'.s = { s' with heap := h' }) → R) : R := by
  obtain ⟨P', acc, σ', rfl, le, ok, q, nd, hn, him, ndL, hL, hne⟩ := h
  refine k hn fun h' hs => ?_
  have hm : (Φ.put D acc).map σ' Lc = none := by rw [map_N (show Lc ≠ (Φ.put D acc).env.locals from ndL.2.1), hL]; exact (upd_ne hne).trans ndL.1
  obtain ⟨a, b⟩ := ok.m.junk (tk := P'.s.toks) hm him hs.2
  exact ⟨P'.wr h' P'.s.toks, acc, σ', le.trans b, ⟨a, ok.dj⟩, q, nd, rfl⟩
variable {p q' : Pos} {Qv : AV → St → Prop}
theorem w_comp (h : Wco fs elt gens sc σ fun vs s => Qv (.lst vs) s) : We fs (.ListComp elt gens sc p) σ Qv := fun Φ P K E F ok k => by
  rw [eval_ListComp]
  refine h Φ P p none K E F ok fun D Lc s' z => z.close fun ⟨m, hn⟩ hc => ⟨m, hn, fun h' hs => ?_⟩
  obtain ⟨P', acc, σ', le, ok', q, nd, e⟩ := hc h' hs
  obtain ⟨a, b⟩ := ok'.putFreeze nd
  exact e ▸ k (P'.fr D) _ _ σ' (le.trans fr_le) a b q
theorem w_compR (h : Wco fs elt gens sc σ fun vs s => ∀ D, s.H D = none → Qv (.con (.ref D)) (s.set D (.list vs))) : We fs (.ListComp elt gens sc p) σ Qv := fun Φ P K E F ok k => by
  rw [eval_ListComp]
  refine h Φ P p none K E F ok fun D Lc s' z => z.close fun ⟨m, hn⟩ hc => ⟨m, hn, fun h' hs => ?_⟩
  obtain ⟨P', acc, σ', le, ok', q, nd, e⟩ := hc h' hs
  obtain ⟨a, b⟩ := ok'.putAdopt nd
  exact e ▸ k P' _ _ _ le a (.con _) (q D b)
end
end Mine
end
section
namespace Mine
open PySem PySem.W PyProof.Rows PySem.Calls PySem.SeqAt
theorem mem_lk {α β : Type} [BEq α] [LawfulBEq α] : ∀ {l : List (α × β)} {k : α} {v : β}, l.lookup k = some v → (k, v) ∈ l
  | [], _, _, h => nomatch h
  | (a, b) :: l, k, v, h => by
    rw [List.lookup_cons] at h
    cases hk : k == a with
    | true => rw [hk] at h; exact smj h ▸ beq_iff_eq.mp hk ▸ List.mem_cons_self
    | false => rw [hk] at h; exact List.mem_cons_of_mem _ (mem_lk h)
theorem bindL_get (kindOf : Str → Option NameKind) : ∀ (binds : List (Str × Value)) (m : Str → Option Value) (x : Str), (binds.map (·.1)).Nodup → bindL kindOf binds m x = if kindOf x = some .local then (binds.lookup x).or (m x) else m x
  | [], m, x, _ => by unfold bindL; split <;> rfl
  | (n, v) :: r, m, x, nd => by
    rw [List.map_cons, List.nodup_cons] at nd
    unfold bindL
    rw [bindL_get kindOf r _ x nd.2, List.lookup_cons]
    by_cases hx : x = n
    · subst hx
      have hr : r.lookup x = none := by
        cases h : r.lookup x with
        | none => rfl
        | some w => exact absurd (List.mem_map.mpr ⟨(x, w), mem_lk h, rfl⟩) nd.1
      by_cases hk : kindOf x = some .local
      · rw [if_pos hk, if_pos hk, if_pos hk, hr]; simp
      · rw [if_neg hk, if_neg hk, if_neg hk]
    · have hb : (x == n) = false := beq_eq_false_iff_ne.mpr hx
      rw [hb]
      by_cases hk : kindOf n = some .local
      · rw [if_pos hk]; simp only [if_neg hx]
      · rw [if_neg hk]
theorem bindC_get (kindOf : Str → Option NameKind) : ∀ (binds : List (Str × Value)) (m : Str → Option Value) (x : Str), (binds.map (·.1)).Nodup → bindC kindOf binds m x = if kindOf x = some .local then m x else (binds.lookup x).or (m x)
  | [], m, x, _ => by unfold bindC; split <;> rfl
  | (n, v) :: r, m, x, nd => by
    rw [List.map_cons, List.nodup_cons] at nd
    unfold bindC
    rw [bindC_get kindOf r _ x nd.2, List.lookup_cons]
    by_cases hx : x = n
    · subst hx
      have hr : r.lookup x = none := by
        cases h : r.lookup x with
        | none => rfl
        | some w => exact absurd (List.mem_map.mpr ⟨(x, w), mem_lk h, rfl⟩) nd.1
      by_cases hk : kindOf x = some .local
      · rw [if_pos hk, if_pos hk, if_pos hk]
      · rw [if_neg hk, if_neg hk, if_neg hk, hr]; simp
    · have hb : (x == n) = false := beq_eq_false_iff_ne.mpr hx
      rw [hb]
      by_cases hk : kindOf n = some .local
      · rw [if_pos hk]
      · rw [if_neg hk]; simp only [if_neg hx]
theorem lookup_filterKey {α : Type} (p : Str → Bool) : ∀ (l : List (Str × α)) (x : Str), (l.filter fun q => p q.1).lookup x = if p x then l.lookup x else none
  | [], x => by split <;> rfl
  | (n, v) :: r, x => by
    by_cases hx : x = n
    · subst hx
      by_cases hp : p x = true
      · rw [List.filter_cons_of_pos (by exact hp), List.lookup_cons, List.lookup_cons, if_pos hp]; simp
      · rw [List.filter_cons_of_neg (by exact hp), lookup_filterKey p r x, if_neg hp, if_neg hp]
    · have hb : (x == n) = false := beq_eq_false_iff_ne.mpr hx
      rw [List.lookup_cons, hb, ← lookup_filterKey p r x]
      by_cases hp : p n = true
      · rw [List.filter_cons_of_pos (by exact hp), List.lookup_cons, hb]
      · rw [List.filter_cons_of_neg (by exact hp)]
theorem cellsFrom_append : ∀ (names : List (Str × NameKind)) (n : Nat) (acc : List (Str × Nat)) (x : Str), x ∉ (names.map (·.1)) → (cellsFrom n names acc).lookup x = acc.lookup x
  | [], n, acc, x, _ => rfl
  | (nm, kd) :: r, n, acc, x, h => by
    rw [List.map_cons, List.mem_cons, not_or] at h
    unfold cellsFrom
    split
    · rw [cellsFrom_append r _ _ x h.2, List.lookup_cons, beq_eq_false_iff_ne.mpr h.1]
    · exact cellsFrom_append r _ _ x h.2
theorem cellsFrom_at : ∀ (names : List (Str × NameKind)) (n : Nat) (acc : List (Str × Nat)), (names.map (·.1)).Nodup → ∀ (i : Nat) (x : Str), ((names.filter fun p => p.2 == .cell).map (·.1))[i]? = some x → (cellsFrom n names acc).lookup x = some (n + i)
  | [], n, acc, _, i, x, h => by cases h
  | (nm, kd) :: r, n, acc, nd, i, x, h => by
    rw [List.map_cons, List.nodup_cons] at nd
    unfold cellsFrom
    by_cases hc : (kd == NameKind.cell) = true
    · rw [if_pos hc]
      rw [List.filter_cons_of_pos (by exact hc), List.map_cons] at h
      cases i with
      | zero =>
        cases h
        rw [cellsFrom_append r _ _ nm nd.1, List.lookup_cons]
        simp
      | succ i =>
        rw [List.getElem?_cons_succ] at h
        rw [cellsFrom_at r (n + 1) _ nd.2 i x h]
        congr 1
        lia
    · rw [if_neg hc]
      rw [List.filter_cons_of_neg (by exact hc)] at h
      exact cellsFrom_at r n acc nd.2 i x h
theorem lookup_of_cellName : ∀ (names : List (Str × NameKind)), (names.map (·.1)).Nodup → ∀ x, x ∈ ((names.filter fun p => p.2 == .cell).map (·.1)) → names.lookup x = some .cell
  | [], _, x, h => by cases h
  | (nm, kd) :: r, nd, x, h => by
    rw [List.map_cons, List.nodup_cons] at nd
    rw [List.lookup_cons]
    by_cases hc : (kd == NameKind.cell) = true
    · rw [List.filter_cons_of_pos (by exact hc), List.map_cons] at h
      rcases List.mem_cons.mp h with e0_ | h
      · rw [e0_]; simp [beq_iff_eq.mp hc]
      · have hm : x ∈ r.map (·.1) := by
          obtain ⟨q, hq, rfl⟩ := List.mem_map.mp h
          exact List.mem_map_of_mem (List.mem_filter.mp hq).1
        have : (x == nm) = false := beq_eq_false_iff_ne.mpr fun z => nd.1 (z ▸ hm)
        rw [this]
        exact lookup_of_cellName r nd.2 x h
    · rw [List.filter_cons_of_neg (by exact hc)] at h
      have hm : x ∈ r.map (·.1) := by
        obtain ⟨q, hq, rfl⟩ := List.mem_map.mp h
        exact List.mem_map_of_mem (List.mem_filter.mp hq).1
      have : (x == nm) = false := beq_eq_false_iff_ne.mpr fun z => nd.1 (z ▸ hm)
      rw [this]
      exact lookup_of_cellName r nd.2 x h
theorem fm_congr {α β : Type} {f g : α → Option β} : ∀ {l : List α}, (∀ a ∈ l, f a = g a) → l.filterMap f = l.filterMap g
  | [], _ => rfl
  | a :: l, h => by
    rw [List.filterMap_cons, List.filterMap_cons, h a (List.mem_cons_self ..), fm_congr fun b hb => h b (List.mem_cons_of_mem _ hb)]
theorem zip_lookup : ∀ (ps : List Str) (vs : List Value), ps.length ≤ vs.length → ps.Nodup → ps.filterMap (fun n => ((ps.zip vs).lookup n).map (n, ·)) = ps.zip vs ∧ ∀ p ∈ ps, ((ps.zip vs).lookup p).isSome = true
  | [], vs, _, _ => ⟨rfl, fun p h => by cases h⟩
  | p :: ps, [], h, _ => by cases h
  | p :: ps, v :: vs, h, nd => by
    rw [List.nodup_cons] at nd
    obtain ⟨i1, i2⟩ := zip_lookup ps vs (Nat.le_of_succ_le_succ h) nd.2
    have hne : ∀ q ∈ ps, (q == p) = false := fun q hq => beq_eq_false_iff_ne.mpr fun z => nd.1 (z ▸ hq)
    constructor
    · rw [List.zip_cons_cons, List.filterMap_cons_some (b := (p, v)) (by rw [List.lookup_cons]; simp)]
      congr 1
      rw [← i1]
      exact fm_congr fun q hq => by rw [List.lookup_cons, hne q hq, i1]
    · intro q hq
      rw [List.zip_cons_cons, List.lookup_cons]
      rcases List.mem_cons.mp hq with e0_ | hq
      · rw [e0_]; simp
      · rw [hne q hq]; exact i2 q hq
section
variable {M : Model} {A : Around} {E : Value → Shared → Prop} {s : Shared}
theorem filt_none {ps : List Str} {l : List (Str × Value)} (h : ∀ p ∈ ps, (l.lookup p).isSome = true) : ps.filter (fun n => (l.lookup n).isNone) = [] :=
  List.filter_eq_nil_iff.mpr fun p hp hz => by
    have := h p hp
    rw [Option.isNone_iff_eq_none.mp hz] at this; cases this
noncomputable abbrev dfl (ps : List Str) (d0 : Option (Array Value)) : List Value := (d0.getD #[]).toList.drop ((d0.getD #[]).toList.length - ps.length)
theorem bind_core {fd : FuncData} {vals : List Value} {M : Model} {A : Around} {E : Value → Shared → Prop} {s : Shared} {Q : List (Str × Value) → Shared → Prop} (h1 : fd.params.posonlyargs = []) (h2 : fd.params.kwonlyargs = []) (h3 : fd.params.kwarg = none)
    {ps : List Str} (h5 : fd.params.args.map (·.arg) = ps) {d0 : Option (Array Value)} (hs : ∀ {R : Option (Array Value) → Shared → Prop}, R d0 s → wpAny M A (seqItems? fd.defaults) R E s)
    (hg : (decide (vals.length > ps.length) && fd.params.vararg.isNone) = false) (hm : (!((ps.take (ps.length - (dfl ps d0).length)).filter fun n => ((ps.zip vals).lookup n).isNone).isEmpty) = false)
    (k : wpAny M A ((forIn ((ps.drop (ps.length - (dfl ps d0).length)).zip (dfl ps d0)) (ps.zip vals) fun x sl => match x with | (name, d) => if (sl.lookup name).isNone = true then pure (ForInStep.yield (sl ++ [(name, d)])) else pure (ForInStep.yield sl)) >>= fun sl =>
      match fd.params.vararg with
      | some a => newTuple (vals.drop ps.length) >>= fun t => pure (((ps ++ []).filterMap fun n => (sl.lookup n).map (n, ·)) ++ [(a.arg, t)])
      | none => pure ((ps ++ []).filterMap fun n => (sl.lookup n).map (n, ·))) Q E s) : wpAny M A (bindArgs fd ⟨vals, []⟩) Q E s := by
  obtain ⟨a1, a2, ⟨p1, p2, p3, p4, p5, p6⟩, a4, a5, a6, a7, a8⟩ := fd
  cases h1; cases h2; cases h3; subst h5
  show wpAny M A (seqItems? a8 >>= fun d0 => _) Q E s
  refine wpAny_bind (hs ?_)
  refine wp_no (fun z => nomatch hg.symm.trans z) ?_
  refine wp_no (fun z => nomatch hm.symm.trans z) ?_
  cases p3 <;> exact k
theorem bind_plain {fd : FuncData} {ps : List Str} {vals : List Value} {Q : List (Str × Value) → Shared → Prop} (P : PlainDef fd ps none) (hl : vals.length = ps.length) (h : Q (ps.zip vals) s) : wpAny M A (bindArgs fd ⟨vals, []⟩) Q E s := by
  obtain ⟨z1, z2⟩ := zip_lookup ps vals (Nat.le_of_eq hl.symm) P.nd
  refine bind_core P.po P.ko P.kw P.eqa (d0 := none) (fun r => by rw [P.df]; exact wpAny_pure r) ?_ ?_ ?_
  · rw [hl, decide_eq_false (Nat.lt_irrefl _)]; rfl
  · rw [show dfl ps none = [] from List.drop_nil, List.length_nil, Nat.sub_zero, List.take_length, filt_none z2]; rfl
  · rw [show fd.params.vararg = none from Option.map_eq_none_iff.mp P.eqv, show dfl ps none = [] from List.drop_nil, List.zip_nil_right]
    exact wpAny_pure ((List.append_nil ps).symm ▸ z1.symm ▸ h)
theorem bind_star {fd : FuncData} {ps : List Str} {v : Str} {vals : List Value} {Q : List (Str × Value) → Shared → Prop} (P : PlainDef fd ps (some v)) (hl : ps.length ≤ vals.length) (hsz : vals.length ≤ 1000)
    (h : Q (ps.zip vals ++ [(v, .ref s.heap.objs.size)]) { s with heap := s.heap.push { cls := .type "tuple", data := .seq (vals.drop ps.length).toArray } }) : wpAny M A (bindArgs fd ⟨vals, []⟩) Q E s := by
  obtain ⟨va, hva, rfl⟩ := Option.map_eq_some_iff.mp P.eqv
  obtain ⟨z1, z2⟩ := zip_lookup ps vals hl P.nd
  refine bind_core P.po P.ko P.kw P.eqa (d0 := none) (fun r => by rw [P.df]; exact wpAny_pure r) ?_ ?_ ?_
  · rw [hva]; exact Bool.and_false _
  · rw [show dfl ps none = [] from List.drop_nil, List.length_nil, Nat.sub_zero, List.take_length, filt_none z2]; rfl
  · rw [hva, show dfl ps none = [] from List.drop_nil, List.zip_nil_right]
    show wpAny M A (newTuple (vals.drop ps.length) >>= fun t => pure ((ps ++ []).filterMap (fun n => ((ps.zip vals).lookup n).map (n, ·)) ++ [(va.arg, t)])) Q E s
    refine wpAny_bind (wpAny_newTuple (wpAny_pure ((List.append_nil ps).symm ▸ z1.symm ▸ h)) ?_)
    rw [List.length_drop, sizeLine_eq]; lia
end
end Mine
end
section
namespace Mine
open PySem PySem.W PyProof.Rows PySem.Calls PySem.SeqAt
noncomputable def retOf : AFlow → AV
  | .ret v => v
  | _ => .none
noncomputable def rest (m : Addr → Option AObj) (H : Addr → Option AObj) : Addr → Option AObj := fun a => if (H a).isSome then none else m a
noncomputable def joinM (H K : Addr → Option AObj) : Addr → Option AObj := fun a => (H a).or (K a)
structure CallOk (C : Cx) (A : Around) (fr : List Env) (n : Nat) (m H : Addr → Option AObj) : Prop where
  cx : CxOk C
  handled : A.handled = none
  depth : A.depth + 1 + 4 * n ≤ 900
  units : A.units + 3 + 20 * n ≤ 9000
  frames : A.frames = some fr
  fk : ∀ env ∈ fr, env.scope.kind ≠ .module ∧ ∃ L ns, env.frame = some L ∧ C.B.get? L = none ∧ m L = some (.loc ns) ∧ H L = none
  tabs : ∀ p ∈ C.tabs, ∃ ps, m p.2 = some (.tab ps) ∧ H p.2 = none
  sub : SubH H m
noncomputable def Body (T : Top0) (n : Nat) (fi : FI) (binds : List (Str × AV)) (H : Addr → Option AObj) (Q : AV → (Addr → Option AObj) → Prop) : Prop :=
  ∀ base, (∀ a, base ≤ a → H a = none) → Wx ⟨T, n, fi.scope, cellsFrom base fi.scope.names [], fi.lam⟩ fi.body ⟨addC H base ((cellNames fi.scope).map fun x => .cell (binds.lookup x)), binds.filter fun p => fi.scope.names.lookup p.1 == some .local⟩
    fun fl s' => ∃ H', SubH H' s'.H ∧ Q (retOf fl) H'
noncomputable def Wxe (fs : FS) (ss : List Stmt) (σ : St) (K : AFlow → St → Prop) (X : St → Prop) : Prop :=
  ∀ Φ P (Q : Flow → Shared → Prop) E, FrOk Φ fs → FnFr Φ → Ok Φ σ P → (∀ P' g fl σ', Le P P' → Ok Φ σ' P' → FlR P' fl g → K fl σ' → Q g P'.s) →
    (∀ P' σ' h' e vs, Le P P' → Ok Φ σ' P' → Heap.MadeExcOf P'.s.heap h' e (.ref 152) vs → X σ' → E (.ref e) { P'.s with heap := h' }) → wpAny Φ.M Φ.A (execs ss Φ.env) Q E P.s
theorem Wx.toE {fs : FS} {ss : List Stmt} {σ : St} {K : AFlow → St → Prop} {X : St → Prop} (h : Wx fs ss σ K) : Wxe fs ss σ K X := fun Φ P Q E F ff ok k _ => h Φ P Q E F ff ok k
noncomputable def BodyE (T : Top0) (n : Nat) (fi : FI) (binds : List (Str × AV)) (H : Addr → Option AObj) (Q : AV → (Addr → Option AObj) → Prop) (X : (Addr → Option AObj) → Prop) : Prop :=
  ∀ base, (∀ a, base ≤ a → H a = none) → Wxe ⟨T, n, fi.scope, cellsFrom base fi.scope.names [], fi.lam⟩ fi.body ⟨addC H base ((cellNames fi.scope).map fun x => .cell (binds.lookup x)), binds.filter fun p => fi.scope.names.lookup p.1 == some .local⟩
    (fun fl s' => ∃ H', SubH H' s'.H ∧ Q (retOf fl) H') fun s' => ∃ H', SubH H' s'.H ∧ X H'
theorem Body.toE {T : Top0} {n : Nat} {fi : FI} {binds : List (Str × AV)} {H : Addr → Option AObj} {Q : AV → (Addr → Option AObj) → Prop} {X : (Addr → Option AObj) → Prop} (h : Body T n fi binds H Q) : BodyE T n fi binds H Q X := fun base hb => (h base hb).toE
theorem frames_loc {Φ : Fm} {fs : FS} {σ : St} {P : Pt} (F : FrOk Φ fs) (ok : Ok Φ σ P) : ∀ b ∈ Φ.fr.filterMap (·.frame), ∃ ns, Φ.map σ b = some (.loc ns) := fun b hb => by
  obtain ⟨env, he, hf⟩ := List.mem_filterMap.mp hb
  obtain ⟨_, L, e, _, h⟩ := F.fk env he
  obtain rfl := smj (hf.symm.trans e)
  rcases h with rfl | ⟨ns, h⟩
  · exact ⟨_, map_L⟩
  · refine ⟨ns, ?_⟩
    rw [map_N fun z => nos (F.kl.symm.trans (z ▸ h))]
    cases e : σ.H b with
    | none => exact h
    | some ob => exact son (h.symm.trans (ok.dj _ _ e).1)
theorem rest_none {m H : Addr → Option AObj} {a : Addr} (h : H a = none) : rest m H a = m a := by unfold rest; rw [h]; rfl
theorem rest_some {m H : Addr → Option AObj} {a : Addr} {ob : AObj} (h : H a = some ob) : rest m H a = none := by unfold rest; rw [h]; rfl
section
variable {C : Cx} {P P' : Pt}
theorem kvr_lookup : ∀ {es : List (Str × AV)} {kvs : List (Str × Value)}, KVR P es kvs → ∀ x v, es.lookup x = some v → ∃ y, kvs.lookup x = some y ∧ VR P v y
  | [], _, _, x, v, e => nomatch e
  | _ :: _, [], h, _, _, _ => nomatch h.1
  | (a, w) :: es, (b, y) :: kvs, h, x, v, h1 => by
    have e := List.cons.inj h.1
    have r := VRs.uncons (show VRs P (w :: es.map (·.2)) (y :: kvs.map (·.2)) from h.2)
    rw [List.lookup_cons] at h1 ⊢
    rw [show b = a from e.1.symm]
    cases hx : x == a with
    | true => rw [hx] at h1; exact ⟨y, rfl, smj h1 ▸ r.1⟩
    | false => rw [hx] at h1; exact kvr_lookup ⟨e.2, r.2⟩ x v h1
theorem kvr_zip : ∀ (ps : List Str) {vs : List AV} {xs : List Value}, VRs P vs xs → KVR P (ps.zip vs) (ps.zip xs)
  | [], _, _, _ => ⟨rfl, .nil⟩
  | _ :: _, [], _, r => VRs.eN (m := fun xs => KVR P _ (List.zip _ xs)) r ⟨rfl, .nil⟩
  | p :: ps, _ :: _, _, r => VRs.eC (m := fun xs => KVR P _ (List.zip (p :: ps) xs)) r fun x ys a b => let ⟨h1, h2⟩ := kvr_zip ps b; ⟨congrArg (p :: ·) h1, .cons a h2⟩
theorem KVR.append {a c : List (Str × AV)} {b d : List (Str × Value)} (r : KVR P a b) (q : KVR P c d) : KVR P (a ++ c) (b ++ d) :=
  ⟨by rw [List.map_append, List.map_append, r.1, q.1], by rw [List.map_append, List.map_append]; exact r.2.append q.2⟩
theorem ff_of {h : Heap} {B : Heap} {fr : List Env} (k : ∀ env ∈ fr, env.scope.kind ≠ .module ∧ ∃ L o, env.frame = some L ∧ B.get? L = none ∧ h.get? L = some o ∧ ∀ vs, o.data ≠ .fields vs) : h.FunFrames B fr := by
  induction fr with
  | nil => trivial
  | cons env r ih => exact ⟨(k env List.mem_cons_self).1, (k env List.mem_cons_self).2, ih fun e he => k e (List.mem_cons_of_mem _ he)⟩
theorem fn_runE {X : (Addr → Option AObj) → Prop} {A : Around} {fr : List Env} {n : Nat} {m H : Addr → Option AObj} {a : Addr} {fi : FI} {oc : Value} {od : Option Addr} {fd : FuncData} {osl : Array (Option Value)} {xs : List Value} {binds : List (Str × AV)} {Q : AV → (Addr → Option AObj) → Prop} {Kk E : Value → Shared → Prop}
    (co : CallOk C A fr n m H) (okm : Okm C m P) (F : FnIn C a fi oc od fd osl)
    (hB : ∀ (A : Around) (E : Value → Shared → Prop) (Q : List (Str × Value) → Shared → Prop), (∀ bs h', (∀ b o, P.s.heap.get? b = some o → h'.get? b = some o) → KVR (P.gr h' P.s.toks) binds bs → bs.map (·.1) = fi.params ++ fi.vararg.toList → Q bs { P.s with heap := h' }) → wpAny (model C.prog C.w) A (bindArgs fd ⟨xs, []⟩) Q E P.s)
    (hx : BodyE C.T n fi binds H Q X)
    (kx : ∀ P' H' e a0 h' L, Le P P' → Okm C (joinM H' (rest m H)) P' → (∀ a ob, H' a = some ob → rest m H a = none) → X H' → ¬ P'.im L → joinM H' (rest m H) L = none → P'.s.heap.UpToSlots h' → Heap.FlyingW (hideAll P'.s.heap (L :: fr.filterMap (·.frame))) fr e (.ref 152) a0 h' → E (.ref e) { P'.s with heap := h' })
    (k : ∀ P' x v H', Le P P' → Okm C (joinM H' (rest m H)) P' → (∀ a ob, H' a = some ob → rest m H a = none) → VR P' v x → Q v H' → Kk x P'.s) : codeAny (model C.prog C.w) A (.call (.ref a) ⟨xs, []⟩) (CallBack Kk E) P.s := by
  have keepB : ∀ b o, C.B.get? b = some o → P.s.heap.get? b = some o := fun b o e => (okm.base b o e).1
  have X := co.cx.X.keeps keepB
  refine codeAny_call_function (by unfold recursionLimit; have := co.depth; lia) (X _ _ F.obj) rfl (by rw [F.scope]; exact F.co) (by rw [F.scope]; exact F.gen) F.body (codeRec_of X F.code) ?_
  refine hB _ _ _ fun bs h' hk kv hbs => ?_
  rw [F.clo]
  have hnd : (bs.map (·.1)).Nodup := by rw [hbs]; exact F.nd
  have hkind : ∀ x ∈ bs, fd.scope.names.lookup x.1 = some .local ∨ (fd.scope.names.lookup x.1 = some .cell ∧ ((cellsFrom (({ P.s with heap := h' } : Shared).heap.objs.size + 1) fd.scope.names []).lookup x.1).isSome = true) := fun x hx => by
    have hm : x.1 ∈ fi.params ++ fi.vararg.toList := by rw [← hbs]; exact List.mem_map_of_mem hx
    rw [F.scope]
    rcases F.par x.1 hm with h | h
    · exact .inl h
    · exact .inr ⟨h, cellsFrom_some _ _ _ (.inl h)⟩
  refine wpAny_newFunctionEnv_cells (by rw [F.scope]; exact F.kind) hkind fun env he s₂ x => ?_
  generalize hL : ({ P.s with heap := h' } : Shared).heap.objs.size = L' at he x
  have hL0 : h'.objs.size = L' := hL
  have hsc : env.scope = fi.scope := by rw [he]; exact F.scope
  have hloc : env.locals = L' := by rw [he]; rfl
  have hcells : env.cells = cellsFrom (L' + 1) fi.scope.names [] := by rw [he, ← F.scope]; rfl
  have hframe : env.frame = some L' := by rw [he]; rfl
  have hglob : env.globals = mainGlobals := by rw [he]; exact F.glob
  have hblt : env.builtins = builtinsNs := by rw [he]; exact F.blt
  have hcode : env.code = fd.code := by rw [he]; rfl
  clear he hL
  obtain ⟨⟨h₂, tk, rfl⟩, hns, hkeep, _⟩ := x.toInCall
  have kk : ∀ b o, P.s.heap.get? b = some o → h₂.get? b = some o := fun b o e => hkeep b o (hk b o e)
  refine ⟨co.cx.lim.keeps fun b o e => kk b o (keepB b o e), codeAny_func ?_⟩
  have big : ∀ c : Nat, L' ≤ c → P.s.heap.get? c = none := fun c hc => by
    cases hq : P.s.heap.get? c with
    | none => rfl
    | some o => exact absurd (hL0 ▸ Heap.lt_size (hk _ o hq)) (Nat.not_lt.mpr hc)
  have mn : ∀ c : Nat, L' ≤ c → m c = none := fun c hc => by
    cases hq : m c with
    | none => rfl
    | some ob => exact (okm.alive hq (big c hc)).elim
  have Hn : ∀ c : Nat, L' ≤ c → H c = none := fun c hc => by
    cases hq : H c with
    | none => rfl
    | some ob => exact son ((co.sub c ob hq).symm.trans (mn c hc))
  have rn : ∀ c : Nat, L' ≤ c → rest m H c = none := fun c hc => (rest_none (Hn c hc)).trans (mn c hc)
  obtain ⟨o2, b2⟩ := co.cx.b2
  have sys : ∀ c : Nat, L' ≤ c → c ≠ sysModules := fun c hc z => by
    have h3 : 2 < L' := hL0 ▸ Heap.lt_size (hk _ _ (keepB _ _ b2))
    exact absurd (Nat.lt_of_lt_of_le h3 hc) (by rw [z]; decide)
  let P2 := P.up h₂ tk (L' ≤ ·)
  have le2 : Le P P2 := up_le kk
  have leg : Le (P.gr h' P.s.toks) P2 := ⟨fun _ e => hkeep _ _ e, fun i => i.imp id fun ⟨h1, ⟨o, h2⟩, _⟩ => ⟨h1, ⟨o, hkeep _ _ h2⟩, Nat.not_le.mpr (hL0 ▸ Heap.lt_size h2)⟩⟩
  have kv₂ : KVR P2 binds bs := kv.le leg
  have hkinds : ∀ z, env.kindOf z = fi.scope.names.lookup z := fun z => by unfold Env.kindOf; rw [hsc]
  let Φ' : Fm := { C := C, A := A.deeper env, env := env, fr := env :: fr, K := rest m H }
  let σ' : St := ⟨addC H (L' + 1) ((cellNames fi.scope).map fun x => .cell (binds.lookup x)), binds.filter fun p => fi.scope.names.lookup p.1 == some .local⟩
  have hH2 : ∀ c : Nat, c < L' → σ'.H c = H c := fun c hc => addC_lt (Nat.lt_succ_of_lt hc)
  have hH0 : σ'.H L' = none := (addC_lt (Nat.lt_succ_self _)).trans (Hn L' (Nat.le_refl _))
  have okm2 : Okm C (Φ'.map σ') P2 := okm.up kk fun c ob e => by
    by_cases hlt : c < L'
    · refine .inl ?_
      rw [map_N (show c ≠ Φ'.env.locals from fun z => absurd (z.trans hloc) (Nat.ne_of_lt hlt)), hH2 c hlt] at e
      cases hq : H c with
      | some ob' => rw [hq] at e; exact (co.sub c ob' hq).trans e
      | none => rw [hq] at e; exact (rest_none hq).symm.trans e
    · have hge := Nat.le_of_not_lt hlt
      refine .inr ⟨hge, big c hge, sys c hge, ?_⟩
      by_cases hc : c = L'
      · subst hc
        rw [show Φ'.map σ' c = some (.loc σ'.ns) from hloc ▸ map_L (Φ := Φ')] at e
        rw [← smj e]
        obtain ⟨o, es, ep, g1, g2, g3, g4⟩ := hloc ▸ hns
        refine ⟨o, g1, _, ⟨es, ep, g2, g3, g4⟩, fun {z v} e => ?_⟩
        rw [lookup_filterKey (fun y => fi.scope.names.lookup y == some .local)] at e
        by_cases hl : (fi.scope.names.lookup z == some .local) = true
        · rw [if_pos hl] at e
          obtain ⟨y, hy, ry⟩ := kvr_lookup kv₂ z v e
          exact ⟨y, by rw [bindL_get _ _ _ _ hnd, if_pos (by rw [hkinds]; exact eq_of_beq hl), hy]; rfl, ry⟩
        · rw [if_neg hl] at e; exact nos e
      · have hgt : L' + 1 ≤ c := Nat.lt_of_le_of_ne hge (Ne.symm hc)
        rw [map_N (show c ≠ Φ'.env.locals from fun z => hc (z.trans hloc)), show σ'.H c = _ from addC_ge hgt, Hn c hge, show Φ'.K c = none from rn c hge, Option.or_none, Option.or_none, List.getElem?_map] at e
        obtain ⟨z, hz, rfl⟩ := Option.map_eq_some_iff.mp e
        have hlk : env.cells.lookup z = some c := by rw [hcells, cellsFrom_at _ _ _ F.names _ z hz, Nat.add_sub_cancel' hgt]
        obtain ⟨o, ho, hdat⟩ := x.cell z _ hlk
        have hck : fi.scope.names.lookup z = some .cell := lookup_of_cellName _ F.names z (List.mem_of_getElem? hz)
        refine ⟨o, ho, _, hdat, fun w hw => ?_⟩
        obtain ⟨y, hy, ry⟩ := kvr_lookup kv₂ z w hw
        exact ⟨y, by rw [bindC_get _ _ _ _ hnd, if_neg (by rw [hkinds, hck]; decide), hy]; rfl, ry⟩
  have ok2 : Ok Φ' σ' P2 := ⟨okm2, fun c ob e => by
    by_cases hlt : c < L'
    · rw [hH2 c hlt] at e
      exact ⟨rest_some e, fun z => absurd (z.trans hloc) (Nat.ne_of_lt hlt)⟩
    · exact ⟨rn c (Nat.le_of_not_lt hlt), fun z => nos (hH0.symm.trans ((z.trans hloc) ▸ e))⟩⟩
  have F' : FrOk Φ' ⟨C.T, n, fi.scope, cellsFrom (L' + 1) fi.scope.names [], fi.lam⟩ := {
    cx := co.cx, T := rfl, scope := hsc, kind := F.kind, glob := hglob, blt := hblt
    cells := fun x l e => by show env.cells.lookup x = _; rw [hcells]; exact e
    lam := fun h => let ⟨p, a, b⟩ := F.lam h; ⟨p, a, hcode.trans b⟩
    handled := co.handled
    depth := co.depth
    units := co.units
    frames := by show A.frames.map (env :: ·) = _; rw [co.frames]; rfl
    fk := fun e he => (List.mem_cons.mp he).elim (fun z => z ▸ ⟨by rw [hsc, F.kind]; decide, L', hframe, (by
        cases hq : C.B.get? L' with
        | none => rfl
        | some o' => exact son ((keepB _ _ hq).symm.trans (big L' (Nat.le_refl _)))), .inl hloc.symm⟩)
      fun he => let ⟨a, L, ns, b, c, d, e⟩ := co.fk e he; ⟨a, L, b, c, .inr ⟨ns, (rest_none e).trans d⟩⟩
    tabs := fun p hp => let ⟨ps, a, b⟩ := co.tabs p hp; ⟨ps, (rest_none b).trans a⟩
    kl := by show rest m H env.locals = none; rw [hloc]; exact rn L' (Nat.le_refl _) }
  have back : ∀ {P3 σ3 H'}, Ok Φ' σ3 P3 → SubH H' σ3.H → H' L' = none ∧ Okm C (joinM H' (rest m H)) P3 ∧ ∀ a ob, H' a = some ob → rest m H a = none := fun {P3 σ3 H'} ok3 hs => by
   have hHL : H' L' = none := by
    cases hq : H' L' with
    | none => rfl
    | some ob => exact absurd hloc.symm (ok3.dj L' ob (hs _ _ hq)).2
   exact ⟨hHL, (ok3.m.sub fun c ob e => by
    unfold joinM at e
    have hc : c ≠ L' := fun z => by rw [z, hHL, rn L' (Nat.le_refl _)] at e; exact nos e
    rw [map_N (show c ≠ Φ'.env.locals from fun z => hc (z.trans hloc))]
    cases hq : H' c with
    | some ob' => rw [hq] at e; rw [hs _ _ hq]; exact e
    | none =>
      rw [hq] at e
      have e : rest m H c = some ob := e
      cases hq' : σ3.H c with
      | some ob' => exact son (e.symm.trans (ok3.dj c ob' hq').1)
      | none => exact e), fun c ob e => (ok3.dj c ob (hs _ _ e)).1⟩
  refine hx (L' + 1) (fun c hc => Hn c (Nat.le_of_succ_le hc)) Φ' P2 _ _ F' ⟨by show env.frame = some env.locals; rw [hframe, hloc], fr, rfl⟩ ok2 (fun P3 g fl σ3 l3 ok3 r3 ⟨H', hs, q⟩ => ?_) fun P3 σ3 h3 e vs l3 ok3 made ⟨H', hs, q⟩ => ?_
  rotate_left
  · obtain ⟨hHL, b2, b3⟩ := back ok3 hs
    have hfr : (env :: fr).filterMap (·.frame) = L' :: fr.filterMap (·.frame) := by rw [List.filterMap_cons, hframe]
    have nim : ¬ P3.im L' := (ok3.m.objs L' _ (hloc ▸ map_L (Φ := Φ') (σ := σ3))).1
    refine wpAny_leaves_madeW (base := hideAll P3.s.heap (L' :: fr.filterMap (·.frame))) (env := env) (outer := fr) (L := L') F'.frames hframe (fun b o q => of_hideAll _ q) (ff_of fun env' he => ?_) made fun h' t x1 x2 x3 x4 => ?_
    · obtain ⟨hk', L, e', _, _⟩ := F'.fk env' he
      have hin : L ∈ (env :: fr).filterMap (·.frame) := List.mem_filterMap.mpr ⟨env', he, e'⟩
      obtain ⟨ns, e2⟩ := frames_loc F' ok3 L hin
      obtain ⟨_, _, o', g, m', ⟨es, ep, d, _⟩, _⟩ := ok3.m.objs _ _ e2
      exact ⟨hk', L, o', e', hideAll_none _ (hfr ▸ hin), g, fun vs z => nomatch z.symm.trans d⟩
    · exact kx P3 H' e (.ref t) h' L' (le2.trans l3) b2 b3 q nim (by unfold joinM; rw [hHL]; exact rn L' (Nat.le_refl _)) ((Heap.UpToSlots.of_keeps made.keeps).trans x4) x1
  have fin : ∀ x, VR P3 (retOf fl) x → Kk x P3.s := fun x rx => k P3 x _ H' (le2.trans l3) (back ok3 hs).2.1 (back ok3 hs).2.2 rx q
  cases r3 with
  | next => exact fin _ .none
  | brk => exact fin _ .none
  | cont => exact fin _ .none
  | ret r => exact fin _ r
theorem fn_run {A : Around} {fr : List Env} {n : Nat} {m H : Addr → Option AObj} {a : Addr} {fi : FI} {oc : Value} {od : Option Addr} {fd : FuncData} {osl : Array (Option Value)} {xs : List Value} {binds : List (Str × AV)} {Q : AV → (Addr → Option AObj) → Prop} {Kk E : Value → Shared → Prop}
    (co : CallOk C A fr n m H) (okm : Okm C m P) (F : FnIn C a fi oc od fd osl)
    (hB : ∀ (A : Around) (E : Value → Shared → Prop) (Q : List (Str × Value) → Shared → Prop), (∀ bs h', (∀ b o, P.s.heap.get? b = some o → h'.get? b = some o) → KVR (P.gr h' P.s.toks) binds bs → bs.map (·.1) = fi.params ++ fi.vararg.toList → Q bs { P.s with heap := h' }) → wpAny (model C.prog C.w) A (bindArgs fd ⟨xs, []⟩) Q E P.s)
    (hx : Body C.T n fi binds H Q)
    (k : ∀ P' x v H', Le P P' → Okm C (joinM H' (rest m H)) P' → (∀ a ob, H' a = some ob → rest m H a = none) → VR P' v x → Q v H' → Kk x P'.s) : codeAny (model C.prog C.w) A (.call (.ref a) ⟨xs, []⟩) (CallBack Kk E) P.s :=
  fn_runE (X := fun _ => False) co okm F hB hx.toE (fun _ _ _ _ _ _ _ _ _ z => z.elim) k
end
end Mine
end
section
namespace Mine
open PySem PySem.W PyProof.Rows PySem.Calls PySem.SeqAt
noncomputable def abind (fi : FI) (vs : List AV) : Option (List (Str × AV)) := match fi.vararg with
  | none => if vs.length = fi.params.length then some (fi.params.zip vs) else none
  | some v => if fi.params.length ≤ vs.length ∧ vs.length ≤ 1000 then some (fi.params.zip vs ++ [(v, .tup (vs.drop fi.params.length))]) else none
section
variable {C : Cx} {P P' : Pt} {Φ : Fm} {fs : FS} {σ : St} {vs : List AV} {xs : List Value} {a : Addr} {fi : FI} {n : Nat} {binds : List (Str × AV)}
theorem keepIn_of {oc : Value} {od : Option Addr} {fd : FuncData} {osl : Array (Option Value)} (h : FnIn C a fi oc od fd osl) : keepIn C.K (.ref a) = true := by
  unfold keepIn
  dsimp only
  rw [h.obj]
theorem binds_ok {fd : FuncData} (D : PlainDef fd fi.params fi.vararg) (r : VRs P vs xs) (hb : abind fi vs = some binds) {M : Model} {A : Around} {E : Value → Shared → Prop} {Q : List (Str × Value) → Shared → Prop}
    (q : ∀ bs h', (∀ b o, P.s.heap.get? b = some o → h'.get? b = some o) → KVR (P.gr h' P.s.toks) binds bs → bs.map (·.1) = fi.params ++ fi.vararg.toList → Q bs { P.s with heap := h' }) : wpAny M A (bindArgs fd ⟨xs, []⟩) Q E P.s := by
  unfold abind at hb
  cases hv : fi.vararg with
  | none =>
    rw [hv] at hb D q
    by_cases hl : vs.length = fi.params.length
    · have hb := smj ((if_pos hl).symm.trans hb)
      have hx : xs.length = fi.params.length := r.length.trans hl
      refine bind_plain D hx (q _ P.s.heap (fun _ _ e => e) (hb ▸ kvr_zip _ (r.le (up_le fun _ _ e => e))) ?_)
      rw [Option.toList_none, List.append_nil]
      exact List.map_fst_zip (by rw [hx]; exact Nat.le_refl _)
    · exact nos ((if_neg hl).symm.trans hb)
  | some v =>
    rw [hv] at hb D q
    by_cases hl : fi.params.length ≤ vs.length ∧ vs.length ≤ 1000
    · have hb := smj ((if_pos hl).symm.trans hb)
      have hx : fi.params.length ≤ xs.length := by rw [r.length]; exact hl.1
      refine bind_star D hx (by rw [r.length]; exact hl.2) ?_
      have hk := keep_push P.s.heap { cls := .type "tuple", data := .seq (xs.drop fi.params.length).toArray }
      refine q _ _ hk (hb ▸ KVR.append (kvr_zip _ (r.le (up_le hk))) ⟨rfl, .cons (.tup ⟨_, Heap.get?_push_size _ rfl, rfl, _, rfl⟩ (im_push rfl) ((r.drop _).le (up_le hk))) .nil⟩) ?_
      rw [List.map_append, List.map_fst_zip hx]
      rfl
    · exact nos ((if_neg hl).symm.trans hb)
theorem call_ok (F : FrOk Φ fs) (ok : Okm Φ.C (Φ.map σ) P) (dj : ∀ a ob, σ.H a = some ob → Φ.K a = none ∧ a ≠ Φ.env.locals) {A : Around} (h1 : A.handled = none) (h2 : A.depth + 1 + 4 * n ≤ 900) (h3 : A.units + 3 + 20 * n ≤ 9000) (h4 : A.frames = some Φ.fr) : CallOk Φ.C A Φ.fr n (Φ.map σ) σ.H :=
  have hL : σ.H Φ.env.locals = none := by
    cases e : σ.H Φ.env.locals with
    | none => rfl
    | some ob => exact ((dj _ ob e).2 rfl).elim
  have hK : ∀ {L ob}, Φ.K L = some ob → Φ.map σ L = some ob ∧ σ.H L = none := fun {L ob} e => by
    have h0 : σ.H L = none := by
      cases e' : σ.H L with
      | none => rfl
      | some ob' => exact nos ((dj _ ob' e').1.symm.trans e)
    refine ⟨?_, h0⟩
    unfold Fm.map
    rw [if_neg fun z => nos (F.kl.symm.trans (z ▸ e)), h0]; exact e
  { cx := F.cx, handled := h1, depth := h2, units := h3, frames := h4
    fk := fun env he => let ⟨x, L, b, c, d⟩ := F.fk env he; ⟨x, L, d.elim (fun z => ⟨σ.ns, b, c, z ▸ map_L, z ▸ hL⟩) fun ⟨ns, e⟩ => ⟨ns, b, c, (hK e).1, (hK e).2⟩⟩
    tabs := fun p hp => let ⟨ps, e⟩ := F.tabs p hp; ⟨ps, (hK e).1, (hK e).2⟩
    sub := fun a ob e => map_H ⟨ok, dj⟩ e }
theorem back_ok (F : FrOk Φ fs) (dj : ∀ a ob, σ.H a = some ob → Φ.K a = none ∧ a ≠ Φ.env.locals) {H' : Addr → Option AObj} (okm : Okm Φ.C (joinM H' (rest (Φ.map σ) σ.H)) P') (d2 : ∀ a ob, H' a = some ob → rest (Φ.map σ) σ.H a = none) : Ok Φ ⟨H', σ.ns⟩ P' := by
  have hL : σ.H Φ.env.locals = none := by
    cases e : σ.H Φ.env.locals with
    | none => rfl
    | some ob => exact ((dj _ ob e).2 rfl).elim
  have rL : rest (Φ.map σ) σ.H Φ.env.locals = some (.loc σ.ns) := (rest_none hL).trans map_L
  have hK : ∀ {L ob}, Φ.K L = some ob → rest (Φ.map σ) σ.H L = some ob := fun {L ob} e => by
    have h0 : σ.H L = none := by
      cases e' : σ.H L with
      | none => rfl
      | some ob' => exact nos ((dj _ ob' e').1.symm.trans e)
    rw [rest_none h0]
    unfold Fm.map
    rw [if_neg fun z => nos (F.kl.symm.trans (z ▸ e)), h0]; exact e
  have dj' : ∀ a ob, H' a = some ob → Φ.K a = none ∧ a ≠ Φ.env.locals := fun a ob e => by
    have h := d2 a ob e
    refine ⟨?_, fun z => by rw [z, rL] at h; exact son h⟩
    cases hk : Φ.K a with
    | none => rfl
    | some ob' => exact nos (h.symm.trans (hK hk))
  refine ⟨okm.sub fun a ob e => ?_, dj'⟩
  unfold Fm.map at e
  unfold joinM
  by_cases hz : a = Φ.env.locals
  · rw [if_pos hz] at e
    have h0 : H' a = none := by
      cases hq : H' a with
      | none => rfl
      | some ob' => exact ((dj' a ob' hq).2 hz).elim
    rw [h0, hz, rL]; exact e
  · rw [if_neg hz] at e
    cases hq : H' a with
    | some ob' => rw [show (⟨H', σ.ns⟩ : St).H a = some ob' from hq] at e; exact e
    | none => rw [show (⟨H', σ.ns⟩ : St).H a = none from hq] at e; exact hK e
variable {Q : AV → St → Prop}
theorem fc_lib (hn : fs.n = n + 1) (hl : fs.T.lib a = some fi) (hb : abind fi vs = some binds) (h : Body fs.T n fi binds σ.H fun v H' => Q v ⟨H', σ.ns⟩) : Fc fs a vs σ Q := fun Φ P xs K E F ok r k =>
  let ⟨oc, od, fd, osl, fn, D⟩ := F.cx.lib.lib a fi (F.T ▸ hl)
  fn_run (n := n) (call_ok F ok.m ok.dj F.handled (by have := F.depth; lia) (by have := F.units; lia) F.frames) ok.m fn (fun A E Q q => binds_ok D r hb q) (F.T ▸ h) fun P' x v H' l okm d rx q =>
    k P' x v _ l (back_ok F ok.dj okm d) rx q
theorem kp_lib (hl : fs.T.lib a = some fi) : Kp fs (.con (.ref a)) := kp_K fun Φ X e => let ⟨_, _, _, _, fn, _⟩ := X.lib.lib a fi (e ▸ hl); keepIn_of fn
theorem ac_lib (hn : fs.n = n + 1) (hl : fs.T.lib a = some fi) (hb : abind fi vs = some binds) (h : Body fs.T n fi binds σ.H fun v H' => Q v ⟨H', σ.ns⟩) : Ac fs (.con (.ref a)) vs σ Q := ac_fn (fc_lib hn hl hb h)
theorem under_call_weight (cl : Addr) (rest : List Value) : (Code.builtin "type.__call__" ⟨.ref cl :: rest, []⟩).weight = 1 := rfl
theorem under_call_units (cl : Addr) (rest : List Value) : (Code.builtin "type.__call__" ⟨.ref cl :: rest, []⟩).cUnits = 1 := rfl
theorem under_call_envs (cl : Addr) (rest : List Value) : (Code.builtin "type.__call__" ⟨.ref cl :: rest, []⟩).envs = [] := rfl
theorem bind_dflt {M : Model} {A : Around} {E : Value → Shared → Prop} {s : Shared} {fd : FuncData} {p q : Str} {x : Value} {T : Addr} {o : Obj} {nn : Nat} {Q : List (Str × Value) → Shared → Prop} (h1 : fd.params.posonlyargs = []) (h2 : fd.params.kwonlyargs = []) (h3 : fd.params.kwarg = none) (h4 : fd.params.vararg = none)
    (h5 : fd.params.args.map (·.arg) = [p, q]) (hpq : p ≠ q) (h6 : fd.defaults = .ref T) (ho : s.heap.get? T = some o) (hd : o.data = .seq #[.none] nn) (h : Q [(p, x), (q, .none)] s) : wpAny M A (bindArgs fd ⟨[x], []⟩) Q E s := by
  have hqp : (q == p) = false := beq_eq_false_iff_ne.mpr (Ne.symm hpq)
  have l1 : ∀ r : List (Str × Value), ((p, x) :: r).lookup q = r.lookup q := fun r => by rw [List.lookup_cons, hqp]
  have l2 : ∀ (v : Value) (r : List (Str × Value)) (k : Str), ((k, v) :: r).lookup k = some v := fun v r k => by rw [List.lookup_cons, beq_self_eq_true]
  refine bind_core h1 h2 h3 h5 (d0 := some #[.none]) (fun r => by rw [h6]; exact wpAny_seqItems ho hd r) (by rw [h4]; rfl) ?_ ?_
  · show (!([p].filter fun n => (([(p, x)] : List (Str × Value)).lookup n).isNone).isEmpty) = false
    rw [List.filter_cons_of_neg (by rw [l2]; exact nofun)]; rfl
  · rw [h4]
    show wpAny M A (forIn [(q, Value.none)] [(p, x)] _ >>= _) Q E s
    rw [List.forIn_cons]
    dsimp only
    rw [l1]
    refine (wpAny_pure ?_ : wpAny M A (pure ([p, q].filterMap fun n => (([(p, x), (q, Value.none)] : List (Str × Value)).lookup n).map (n, ·))) Q E s)
    rw [List.filterMap_cons_some (b := (p, x)) (by rw [l2]; rfl), List.filterMap_cons_some (b := (q, Value.none)) (by rw [l1, l2]; rfl)]
    exact h
theorem emptyDict_ns : Ns1Obj emptyDict (fun _ => none) := ⟨#[], 0, rfl, fun e he => absurd he (Array.not_mem_empty e), by unfold UniqKeys; simp, fun _ => rfl⟩
theorem ctor_ok {cl fI : Addr} (F : FrOk Φ fs) (ok : Ok Φ σ P) (Ci : CtorIn Φ.C.K cl fI) {oc : Value} {od : Option Addr} {fd : FuncData} {osl : Array (Option Value)} (fn : FnIn Φ.C fI fi oc od fd osl) (hn : fs.n = n + 1) {rest : List Value} {σ₁ : St} {P₁ : Pt}
    (hs : P₁.s = { P.s with heap := (P.s.heap.push emptyDict).push (instObj cl P.s.heap.objs.size) }) (l1 : Le P P₁) (ok₁ : Ok Φ σ₁ P₁)
    (hB : ∀ (A : Around) (E : Value → Shared → Prop) (Q : List (Str × Value) → Shared → Prop), (∀ bs h', (∀ b o, P₁.s.heap.get? b = some o → h'.get? b = some o) → KVR (P₁.gr h' P₁.s.toks) binds bs →
      bs.map (·.1) = fi.params ++ fi.vararg.toList → Q bs { P₁.s with heap := h' }) → wpAny (model Φ.C.prog Φ.C.w) A (bindArgs fd ⟨.ref (P.s.heap.objs.size + 1) :: rest, []⟩) Q E P₁.s)
    (h : Body fs.T n fi binds σ₁.H fun v H' => v = .none ∧ Q (.con (.ref (P.s.heap.objs.size + 1))) ⟨H', σ₁.ns⟩) {K E : Value → Shared → Prop} (k : ∀ P' x v σ', Le P P' → Ok Φ σ' P' → VR P' v x → Q v σ' → K x P'.s) : wpAny Φ.M Φ.A (call (.ref cl) rest) K E P.s := by
  have X := ok.frag F
  refine wpAny_call (codeAny_mono (R := CallBack K E) ?_ fun r s' x => x)
  refine make_core (makes_of X Ci.makes) (looks_findIn X Ci.init) (fun self => bind_fn X self (eq_of_beq Ci.fn)) (.inl rfl) ?_
  have hA : (Φ.A.under (.builtin "type.__call__" ⟨.ref cl :: rest, []⟩)).frames = some Φ.fr := by
    rw [show (Φ.A.under (.builtin "type.__call__" ⟨.ref cl :: rest, []⟩)).frames = pushEnvs (Code.builtin "type.__call__" ⟨.ref cl :: rest, []⟩).envs Φ.A.frames from rfl, under_call_envs]
    exact F.frames
  rw [show ({ heap := (P.s.heap.push emptyDict).push (instObj cl P.s.heap.objs.size), gens := P.s.gens, drawn := P.s.drawn, toks := P.s.toks, os := P.s.os } : Shared) = P₁.s from hs.symm]
  refine codeAny_mono (fn_run (n := n) (A := Φ.A.under (.builtin "type.__call__" ⟨.ref cl :: rest, []⟩)) (P := P₁) (Kk := fun x s' => x = .none ∧ K (.ref (P.s.heap.objs.size + 1)) s') (E := E) (call_ok F ok₁.m ok₁.dj F.handled (by show Φ.A.depth + _ + 1 + 4 * n ≤ 900; rw [under_call_weight]; have := F.depth; lia) (by show Φ.A.units + _ + 3 + 20 * n ≤ 9000; rw [under_call_units]; have := F.units; lia) hA) ok₁.m fn hB (F.T ▸ h) fun P' x v H' l okm d rx q =>
    ⟨by rw [q.1] at rx; exact rx.inv, k P' _ _ _ (l1.trans l) (back_ok F ok₁.dj okm d) (.con _) q.2⟩) fun r s' z => ?_
  rcases r with e | (v | _ | _ | _) <;> first | exact z | exact (show False from z).elim
theorem ac_234 (hn : fs.n = n + 1) (hc : fs.T.ctor 234 = some fi) (h : ∀ d i, σ.H d = none → σ.H i = none → i ≠ d → Body fs.T n fi [("self", .con (.ref i)), ("graph", .none)] ((σ.set d (.attrs [])).set i (.inst 234 d)).H fun v H' => v = .none ∧ Q (.con (.ref i)) ⟨H', σ.ns⟩) :
    Ac fs (.con (.ref 234)) [] σ Q := fun Φ P g xs K E F ok r rs k => by
  obtain ⟨fI, oc, od, fd, osl, T, o, nn, Ci, fn, h1, h2, h3, h4, h5, h6, h7, h8, h9, h10⟩ := F.cx.lib.c234 fi (F.T ▸ hc)
  refine r.eC (rs.eN ?_)
  obtain ⟨ok1, l1, e1⟩ := add_push F.cx ok (tk := P.s.toks) (o := emptyDict) (ob := .attrs []) rfl ⟨_, emptyDict_ns, by unfold PySem.Within; simp, fun e => nos e⟩
  have hsz : (P.s.heap.push emptyDict).objs.size = P.s.heap.objs.size + 1 := Heap.size_push ..
  have hsz' : (P.up (P.s.heap.push emptyDict) P.s.toks (· = P.s.heap.objs.size)).s.heap.objs.size = P.s.heap.objs.size + 1 := hsz
  have w := add_push F.cx ok1 (tk := P.s.toks) (o := instObj 234 P.s.heap.objs.size) (ob := .inst 234 P.s.heap.objs.size) rfl rfl
  rw [hsz'] at w
  refine ctor_ok F ok Ci fn hn (P₁ := (P.up (P.s.heap.push emptyDict) P.s.toks (· = P.s.heap.objs.size)).up ((P.s.heap.push emptyDict).push (instObj 234 P.s.heap.objs.size)) P.s.toks (· = P.s.heap.objs.size + 1)) rfl (l1.trans w.2.1) w.1 (fun A E Q q => ?_)
    (h _ _ e1 (ok.dead (get_size1 (Nat.le_succ _))).1 (Nat.succ_ne_self _)) k
  refine bind_dflt h1 h2 h3 h4 h5 (by decide +kernel) h8 (keep_push _ _ _ _ (keep_push _ _ _ _ (ok.keep _ _ h9))) h10 (q _ _ (fun _ _ e => e) ⟨rfl, .cons (.con _) (.cons .none .nil)⟩ (by rw [h6, h7]; rfl))
theorem kp_234 (hc : fs.T.ctor 234 = some fi) : Kp fs (.con (.ref 234)) := kp_K fun Φ X e => by
  obtain ⟨_, _, _, _, _, _, _, _, Ci, _⟩ := X.lib.c234 fi (e ▸ hc); exact Ci.keep
theorem kp_137 (hc : fs.T.ctor 137 = some fi) : Kp fs (.con (.ref 137)) := kp_K fun Φ X e => by
  obtain ⟨_, _, _, _, _, Ci, _⟩ := X.lib.c137 fi (e ▸ hc); exact Ci.keep
theorem ac_137 {v : AV} (hn : fs.n = n + 1) (hc : fs.T.ctor 137 = some fi) (h : ∀ i, σ.H i = none → ∃ binds, abind fi [.con (.ref i), v] = some binds ∧ Body fs.T n fi binds (σ.set i (.slots 137 [])).H fun v H' => v = .none ∧ Q (.con (.ref i)) ⟨H', σ.ns⟩) :
    Ac fs (.con (.ref 137)) [v] σ Q := fun Φ P g xs K E F ok r rs k => by
  obtain ⟨fI, oc, od, fd, osl, Ci, fn, D⟩ := F.cx.lib.c137 fi (F.T ▸ hc)
  refine r.eC (rs.eC fun x ys rx rs => rs.eN ?_)
  obtain ⟨ok1, l1⟩ := ok.up (tk := P.s.toks) (keep_push P.s.heap emptyDict)
  have hsz : (P.s.heap.push emptyDict).objs.size = P.s.heap.objs.size + 1 := Heap.size_push ..
  have hsz' : (P.gr (P.s.heap.push emptyDict) P.s.toks).s.heap.objs.size = P.s.heap.objs.size + 1 := hsz
  have im : (P.gr (P.s.heap.push emptyDict) P.s.toks).im P.s.heap.objs.size := im_push rfl
  have w := add_push F.cx ok1 (tk := P.s.toks) (o := instObj 137 P.s.heap.objs.size) (ob := .slots 137 []) rfl ⟨#[], P.s.heap.objs.size, rfl, im, rfl, fun i v e => nomatch e⟩
  rw [hsz'] at w
  obtain ⟨bs, hb, h⟩ := h _ w.2.2
  exact ctor_ok F ok Ci fn hn (P₁ := (P.gr (P.s.heap.push emptyDict) P.s.toks).up ((P.s.heap.push emptyDict).push (instObj 137 P.s.heap.objs.size)) P.s.toks (· = P.s.heap.objs.size + 1)) rfl (l1.trans w.2.1) w.1
    (fun A E Q q => binds_ok D (.cons (.con _) (.cons (rx.le (l1.trans w.2.1)) .nil)) hb q) h k
end
end Mine
end
section
namespace Mine
open PySem PySem.W PyProof.Rows PySem.Calls PySem.SeqAt Builtin.Str Sre
theorem short_fail {code text : Array Nat} {g w : Nat} (h : text.size < w) (e : ∀ b, (decide (0 > text.size) || decide (text.size - 0 < w)) = b → (b = true → ∃ m s, forSearch code text g 0 text.size false = wS m s ∧ Ends 1 m fun b => b.outcome = some .failed)) :
    ∃ m s, forSearch code text g 0 text.size false = wS m s ∧ Ends 1 m fun b => b.outcome = some .failed := e _ rfl (by rw [Bool.or_eq_true, decide_eq_true_eq, decide_eq_true_eq]; exact .inr (by lia))
theorem short55 {text : Array Nat} (h : text.size < 1) : ∃ m s, forSearch c55 text 1 0 text.size false = wS m s ∧ Ends 1 m fun b => b.outcome = some .failed := short_fail h fun b e z => by
  subst z
  unfold forSearch
  dsimp only
  rw [if_pos (by exact e)]
  exact ⟨_, _, (wS_self _).symm, _, r_end rfl rfl rfl, rfl⟩
theorem short60 {text : Array Nat} (h : text.size < 3) : ∃ m s, forSearch c60 text 1 0 text.size false = wS m s ∧ Ends 1 m fun b => b.outcome = some .failed := short_fail h fun b e z => by
  subst z
  unfold forSearch
  dsimp only
  rw [if_pos (by exact e)]
  exact ⟨_, _, (wS_self _).symm, _, r_end rfl rfl rfl, rfl⟩
noncomputable def Sf (code text : Array Nat) (a b e : Nat) : Prop := ∃ m s, forSearch code text 1 0 text.size false = wS m s ∧ Ends (3 * text.size + 30) m fun M => Found M 0 e #[some a, some b] 1 ∧ a ≤ b
noncomputable def Sn (code text : Array Nat) (g : Nat) : Prop := ∃ m s, forSearch code text g 0 text.size false = wS m s ∧ Ends (3 * text.size + 30) m fun M => M.outcome = some .failed
theorem sf_of {code text : Array Nat} {a b e n : Nat} {m : M} {s : Sre.Seen} (h : forSearch code text 1 0 text.size false = wS m s) (hn : n ≤ 3 * text.size + 30) (hr : Ends n m fun M => Found M 0 e #[some a, some b] 1) (hab : a ≤ b) : Sf code text a b e :=
  ⟨m, s, h, let ⟨b, c, p⟩ := Ends.le hn hr; ⟨b, c, p, hab⟩⟩
theorem sn_of {code text : Array Nat} {g n : Nat} {m : M} {s : Sre.Seen} (h : forSearch code text g 0 text.size false = wS m s) (hn : n ≤ 3 * text.size + 30) (hr : Ends n m fun M => M.outcome = some .failed) : Sn code text g := ⟨m, s, h, Ends.le hn hr⟩
theorem big_32 {n : Nat} (h : n ≤ lim) : n ≤ 4294967295 := by unfold lim at h; lia
section
variable {text : Array Nat} {r r2 : List Nat} {a t : Nat}
theorem pos_size (h : text.toList ≠ []) : 1 ≤ text.size := by
  rw [← Array.length_toList]; exact List.length_pos_iff.mpr h
theorem tok_1 (hz : text.size ≤ lim) (ha : a = (text.toList.takeWhile Unicode.isSpace).length) (ht : t = ((text.toList.drop a).takeWhile fun c => !isSep c).length) (h0 : 0 < t) : Sf c55 text a (a + t) (a + t) :=
  let ⟨_, e⟩ := start55 (text := text) (pos_size fun z => by rw [z, List.drop_nil] at ht; exact absurd h0 (ht ▸ Nat.lt_irrefl 0))
  sf_of e (by lia) (p55_found (big_32 hz) ha ht h0) (Nat.le_add_right _ _)
theorem tok_0 (hz : text.size ≤ lim) (ha : (text.toList.takeWhile Unicode.isSpace).length = 0) (ht : (text.toList.takeWhile fun c => !isSep c).length = 0) : Sn c55 text 1 :=
  (Nat.lt_or_ge text.size 1).elim (fun h => let ⟨_, _, e, q⟩ := short55 h; sn_of e (by lia) q) fun h => let ⟨_, e⟩ := start55 h; sn_of e (by lia) (p55_none (big_32 hz) ha ht)
theorem val_1 (hz : text.size ≤ lim) (hl : text.toList = 61 :: r) (hr : noBlank r = true) : Sf c65 text 1 (1 + (r.takeWhile fun c => !isValEnd c).length) (1 + (r.takeWhile fun c => !isValEnd c).length) :=
  let ⟨_, e⟩ := start65 (text := text) (pos_size (by rw [hl]; exact List.cons_ne_nil _ _))
  sf_of e (by lia) (p65_found (big_32 hz) hl hr rfl) (Nat.le_add_right _ _)
theorem quo_2 (hz : text.size ≤ lim) (hl : text.toList = 61 :: r) (hb : noBlank r = true) (hn : ∀ r', r ≠ 34 :: r') : Sn c60 text 1 :=
  (Nat.lt_or_ge text.size 3).elim (fun h => let ⟨_, _, e, q⟩ := short60 h; sn_of e (by lia) q) fun h => let ⟨_, e⟩ := start60 h; sn_of e (by lia) (p60_none2 (big_32 hz) hl hb hn)
theorem quo_1 (hz : text.size ≤ lim) (hl : text.toList = 61 :: 34 :: r) (hr : r.drop (r.takeWhile fun c => c != 34 && c != 92).length = 34 :: r2) : Sf c60 text 2 (2 + (r.takeWhile fun c => c != 34 && c != 92).length) (2 + (r.takeWhile fun c => c != 34 && c != 92).length + 1) := by
  have h3 : 3 ≤ text.size := by
    rw [← Array.length_toList, hl, List.length_cons, List.length_cons]
    have := congrArg List.length hr
    rw [List.length_drop, List.length_cons] at this
    lia
  obtain ⟨_, e⟩ := start60 h3
  exact sf_of e (by lia) (p60_found (big_32 hz) hl rfl hr) (Nat.le_add_right _ _)
theorem getD_all {p : Nat → Bool} (h : text.toList.all p = true) : ∀ k, k < text.size → p (text.getD k 0) = true := fun k hk => by
  rw [List.all_eq_true] at h
  rw [Array.getD_eq_getD_getElem?, Array.getElem?_eq_getElem hk, Option.getD_some]
  exact h _ (Array.mem_toList_iff.mpr (Array.getElem_mem hk))
theorem esc_0 (h : text.toList.all (· != 92) = true) : Sn c70 text 1 :=
  let ⟨_, e0, _, _, e1, q⟩ := p70_none (text := text) fun k hk => by have := getD_all h k hk; simpa using this
  sn_of (e0.trans e1) (by lia) q
theorem quoted_0 (h : text.toList.all (fun c => c != 92 && c != 34) = true) : Sn c87 text 1 := let ⟨_, _, e, q⟩ := p87_none (text := text) fun k hk => getD_all h k hk; sn_of e (by lia) q
end
section
variable {Φ : Fm} {fs : FS} {σ : St} {P : Pt} {x y : Str} {p : Addr} {code : Array Nat} {g a b e : Nat} {Q : AV → St → Prop}
theorem mg_re {m : Str} {id : String} (hp : ∀ C, CxOk C → ∃ code g, PatAt C.B p code g) (slot : Slot "re.Pattern" m id) (hty : typeOf (.builtin id) = pure (.type "method_descriptor")) : Mg (.con (.ref p)) m id σ := fun Φ P x pl K E X ok r => r.eC
  (by
  obtain ⟨_, _, _, _, _, _, _, h1, _⟩ := hp Φ.C X
  exact fun k => getMethod_builtin ⟨_, ok.keep _ _ h1, rfl⟩ G.plain_pat slot hty (fun a z => Value.ref.inj z ▸ ⟨_, ok.keep _ _ h1, rfl⟩) k)
theorem mat_new {l : List Nat} {tk : Nat} {t : Tok} {pos lim li : Int} {sp : List (Nat × Nat)} (hl : spanObj sp = sObj l) :
    VR (P.gr ((P.s.heap.push (sObj l)).push (mObj x t p pos lim li P.s.heap.objs.size)) tk) (.mat x sp) (.ref (P.s.heap.push (sObj l)).objs.size) := by
  have e1 : ((P.s.heap.push (sObj l)).push (mObj x t p pos lim li P.s.heap.objs.size)).get? (P.s.heap.push (sObj l)).objs.size = some (mObj x t p pos lim li P.s.heap.objs.size) := Heap.get?_push_size _ rfl
  have e2 : ((P.s.heap.push (sObj l)).push (mObj x t p pos lim li P.s.heap.objs.size)).get? P.s.heap.objs.size = some (sObj l) := keep_push _ _ _ _ (Heap.get?_push_size _ rfl)
  exact .mat (p := p) (pos := pos) (lim := lim) (li := li) (st := P.s.heap.objs.size) (t := t) e1 (hl ▸ e2) (im_new (get_size1 (by rw [Heap.size_push]; exact Nat.le_succ _)) e1) (im_new (get_size _) e2)
theorem mat_keep (h : Heap) (l : List Nat) (o : Obj) : ∀ b ob, h.get? b = some ob → ((h.push (sObj l)).push o).get? b = some ob := fun b ob e => keep_push _ _ b ob (keep_push _ _ b ob e)
theorem m_found (hp : ∀ C, CxOk C → PatAt C.B p code 1) (hx : x.length ≤ lim) (h : Sf code x.cps a b e) : Q (.mat x [(0, e), (a, b)]) σ → Ac fs (.con (.builtin "re.Pattern.search")) [.con (.ref p), .str x] σ Q := ac2 fun Φ P _ _ F ok r r' Q E k => r.eC (r'.eS fun t =>
  let ⟨_, _, hm, hr⟩ := h
  search_ok ((hp _ F.cx).keeps ok.keep) hx hm (r := some (a, b, e)) hr fun li => k _ P.s.toks _ (mat_keep _ _ _) (mat_new rfl))
theorem m_fail (hp : ∀ C, CxOk C → PatAt C.B p code 1) (hx : x.length ≤ lim) (h : Sn code x.cps 1) : Q .none σ → Ac fs (.con (.builtin "re.Pattern.search")) [.con (.ref p), .str x] σ Q := ac2 fun Φ P _ _ F ok r r' Q E k => r.eC (r'.eS fun t =>
  let ⟨_, _, hm, hr⟩ := h
  search_ok ((hp _ F.cx).keeps ok.keep) hx hm (r := none) hr (k _ P.s.toks _ (fun _ _ e => e) .none))
theorem m_sub (hp : ∀ C, CxOk C → PatAt C.B p code 1) (hx : x.length ≤ lim) (h : Sn code x.cps 1) : Q (.str x) σ → Ac fs (.con (.builtin "re.Pattern.sub")) [.con (.ref p), .lam, .str x] σ Q := Ac.lf fun Φ P g xs F ok r rs Q E k => r.eC (rs.eC fun _ _ r1 rs => rs.e2 fun _ _ r2 r3 => r1.eC (r3.eS fun t => r2.eF fun la o fd e hc hd _ =>
  let ⟨_, _, hm, hr⟩ := h
  sub_none ((hp _ F.cx).keeps ok.keep) hx hm hr e hc fun h' t' tk hk => k h' tk _ hk (.str _ _)))
theorem m_full (hx : x.length ≤ lim) : Q (if (x.cps.toList.all isTokCh && !(x.length == 0)) = true then .mat x [(0, x.length)] else .none) σ → Ac fs (.con (.builtin "re.Pattern.fullmatch")) [.con (.ref 82), .str x] σ Q := ac2 fun Φ P _ _ F ok r r' Q E k => r.eC (r'.eS fun t => by
  refine full_ok (F.cx.re.p82.keeps ok.keep) hx ?_
  by_cases hc : (x.cps.toList.all isTokCh && !(x.length == 0)) = true
  · rw [if_pos hc] at k ⊢
    exact fun li => k _ P.s.toks _ (mat_keep _ _ _) (mat_new rfl)
  · rw [if_neg hc] at k ⊢
    exact k _ P.s.toks _ (fun _ _ e => e) .none)
theorem mg_mat {m : Str} {id : String} {sp : List (Nat × Nat)} (slot : Slot "re.Match" m id) (hty : typeOf (.builtin id) = pure (.type "method_descriptor")) : Mg (.mat x sp) m id σ := fun Φ P _ pl K E X ok r => r.eM fun t p a st pos lim li e1 e2 i j k =>
  getMethod_builtin ⟨_, e1, rfl⟩ G.plain_match slot hty (fun a z => Value.ref.inj z ▸ ⟨_, e1, rfl⟩) k
theorem mg_span {sp : List (Nat × Nat)} : Mg (.mat x sp) "span" "re.Match.span" σ := mg_mat G.slot_span G.type_span
theorem mg_group {sp : List (Nat × Nat)} : Mg (.mat x sp) "group" "re.Match.group" σ := mg_mat G.slot_group G.type_group
theorem span_obj (a b : Nat) (r : List (Nat × Nat)) : spanObj ((a, b) :: r) = sObj (a :: b :: (r.flatMap fun p => [p.1, p.2])) := by
  have : ∀ r : List (Nat × Nat), spanVals r = (r.flatMap fun p => [p.1, p.2]).map fun (n : Nat) => rawInt (n : Int) := fun r => by
    induction r with
    | nil => rfl
    | cons p r ih => unfold spanVals; rw [ih]; rfl
  unfold spanObj sObj
  rw [this]; rfl
theorem m_span {r : List (Nat × Nat)} : Q (.tup [.int a, .int b]) σ → Ac fs (.con (.builtin "re.Match.span")) [.mat x ((a, b) :: r), .int 0] σ Q := ac2 fun Φ P _ _ F ok r r' Q E k => r'.eI fun u => r.eM fun t p l st pos lim li e1 e2 i j => by
  rw [span_obj] at e2
  refine span_ok e1 e2 ?_
  exact k _ _ _ (keep_push _ _) (.tup ⟨_, Heap.get?_push_size _ rfl, rfl, _, rfl⟩ (im_push rfl) (.cons (.int _ _) (.cons (.int _ _) .nil)))
theorem m_group {q : Nat × Nat} (hx : x.length ≤ lim) : Q (.str ⟨x.cps.extract a b⟩) σ → Ac fs (.con (.builtin "re.Match.group")) [.mat x [q, (a, b)], .int 1] σ Q := ac2 fun Φ P _ _ F ok r r' Q E k => r'.eI fun u => r.eM fun t p l st pos lim li e1 e2 i j =>
  group_ok e1 (show _ = some (sObj (q.1 :: q.2 :: a :: b :: [])) from e2) hx fun t' tk => k P.s.heap tk _ (fun _ _ e => e) (.str _ _)
theorem p55_at (C : Cx) (h : CxOk C) : PatAt C.B 55 c55 1 := h.re.p55
theorem p60_at (C : Cx) (h : CxOk C) : PatAt C.B 60 c60 1 := h.re.p60
theorem p65_at (C : Cx) (h : CxOk C) : PatAt C.B 65 c65 1 := h.re.p65
theorem p70_at (C : Cx) (h : CxOk C) : PatAt C.B 70 c70 1 := h.re.p70
theorem p87_at (C : Cx) (h : CxOk C) : PatAt C.B 87 c87 1 := h.re.p87
theorem p99_at (C : Cx) (h : CxOk C) : PatAt C.B 99 c99 1 := h.re.p99
theorem mg_search (hp : ∀ C, CxOk C → PatAt C.B p code g) : Mg (.con (.ref p)) "search" "re.Pattern.search" σ := mg_re (fun C h => ⟨_, _, hp C h⟩) G.slot_search G.type_search
theorem mg_sub (hp : ∀ C, CxOk C → PatAt C.B p code g) : Mg (.con (.ref p)) "sub" "re.Pattern.sub" σ := mg_re (fun C h => ⟨_, _, hp C h⟩) G.slot_sub G.type_sub
theorem mg_full : Mg (.con (.ref 82)) "fullmatch" "re.Pattern.fullmatch" σ := mg_re (fun C h => ⟨_, _, h.re.p82⟩) G.slot_fullmatch G.type_fullmatch
theorem mg_subn : Mg (.con (.ref 43)) "subn" "re.Pattern.subn" σ := mg_re (fun C h => ⟨_, _, h.re.p43⟩) G.slot_subn G.type_subn
end
end Mine
end
section
namespace Mine
open PySem PySem.W PyProof.Rows PySem.Calls PySem.SeqAt
noncomputable abbrev St.del (σ : St) (a : Addr) : St := ⟨fun b => if b = a then none else σ.H b, σ.ns⟩
section
variable {Φ : Fm} {fs : FS} {σ : St} {P : Pt} {a : Addr} {vs : List AV} {e : Expr} {es parts : List Expr} {p q : Pos} {acc y : Str} {Q : AV → St → Prop} {Qs : Str → St → Prop}
theorem Ok.frz (ok : Ok Φ σ P) (e : σ.H a = some (.list vs)) : Ok Φ (σ.del a) (P.fr a) ∧ VR (P.fr a) (.lst vs) (.ref a) := by
  obtain ⟨x, y⟩ := ok.m.freeze (m' := Φ.map (σ.del a)) (map_H ok e) fun b ob h => by
    by_cases hba : b = a
    · rw [hba, map_N (ok.dj a _ e).2, show (σ.del a).H a = none from if_pos rfl, (ok.dj a _ e).1] at h; exact nos h
    · refine ⟨hba, ?_⟩
      by_cases hL : b = Φ.env.locals
      · rw [hL] at h ⊢; exact (map_L (Φ := Φ)).trans ((map_L (Φ := Φ) (σ := σ.del a)).symm.trans h)
      · rw [map_N hL] at h ⊢; rw [show (σ.del a).H b = σ.H b from if_neg hba] at h; exact h
  refine ⟨⟨x, fun b ob h => ?_⟩, y⟩
  by_cases hba : b = a
  · rw [show (σ.del a).H b = none from if_pos hba] at h; exact nos h
  · rw [show (σ.del a).H b = σ.H b from if_neg hba] at h; exact ok.dj b ob h
theorem w_frz (h : We fs e σ fun v s => ∃ a vs, v = .con (.ref a) ∧ s.H a = some (.list vs) ∧ Q (.lst vs) (s.del a)) : We fs e σ Q := fun Φ P K E F ok k => h Φ P K E F ok fun P1 x v σ1 l1 ok1 r1 ⟨a, vs, e0, e1, q⟩ => by
  obtain ⟨c, d⟩ := ok1.frz e1
  obtain rfl : x = .ref a := by rw [e0] at r1; exact r1.inv
  exact k (P1.fr a) _ _ _ (l1.trans fr_le) c d q
noncomputable def Wj (fs : FS) (parts : List Expr) (acc : Str) (σ : St) (Q : Str → St → Prop) : Prop :=
  ∀ Φ P (K : Str → Shared → Prop) E, FrOk Φ fs → Ok Φ σ P → (∀ P' y σ', Le P P' → Ok Φ σ' P' → Q y σ' → K y P'.s) → Joins Φ.M Φ.A E (evalEach parts Φ.env) acc K P.s
theorem j_nil (q : Qs acc σ) : Wj fs [] acc σ Qs := fun Φ P K E F ok k => k P acc σ Le.refl ok q
theorem j_str {u : Nat} {x : Str} (hl : (acc ++ x).length ≤ lim) (h : Wj fs parts (acc ++ x) σ Qs) : Wj fs (.Constant (.str x) u p :: parts) acc σ Qs := fun Φ P K E F ok k =>
  let ⟨ok1, l1⟩ := ok.up (h' := P.s.heap) (tk := P.s.toks + 1) fun _ _ e => e
  Constant_str ⟨x, _, rfl, lim_size hl, h Φ _ K E F ok1 fun P' y σ' l => k P' y σ' (l1.trans l)⟩
theorem j_val {c : Int} (hc : c = -1 ∨ c = 115) (h : We fs e σ fun v s => ∃ x, v = .str x ∧ (acc ++ x).length ≤ lim ∧ Wj fs parts (acc ++ x) s Qs) : Wj fs (.FormattedValue e c none p :: parts) acc σ Qs := fun Φ P K E F ok k => by
  show wpAny _ _ (eval (.FormattedValue e c none p) Φ.env) (fun v s₁ => ∃ y t, v = .str y t ∧ (acc ++ y).length ≤ sizeLine ∧ Joins Φ.M Φ.A E (evalEach parts Φ.env) (acc ++ y) K s₁) E P.s
  rw [arm_eval_FormattedValue]
  refine wpAny_bind (h Φ P _ E F ok fun P1 xv v σ1 l1 ok1 r1 ⟨x, e0, hl, q⟩ => wpAny_bind (wpAny_standAt ?_))
  subst e0
  refine r1.eS fun t => ?_
  have hxl : x.length ≤ sizeLine := lim_size (by rw [strLen_append] at hl; lia)
  have fin : ∀ tk, Joins Φ.M Φ.A E (evalEach parts Φ.env) (acc ++ x) K { P1.s with toks := tk } := fun tk =>
    let ⟨ok2, l2⟩ := ok1.up (h' := P1.s.heap) (tk := tk) fun _ _ e => e
    q Φ _ K E F ok2 fun P' y σ' l => k P' y σ' (l1.trans (l2.trans l))
  have fmt : ∀ tk u, wpAny Φ.M Φ.A (formatField (.str x u) Str.empty) (fun v s₁ => ∃ y t, v = Value.str y t ∧ (acc ++ y).length ≤ sizeLine ∧ Joins Φ.M Φ.A E (evalEach parts Φ.env) (acc ++ y) K s₁) E { P1.s with toks := tk } := fun tk u =>
    wpAny_formatField_str ⟨x, u, rfl, lim_size hl, fin tk⟩ ⟨x, _, rfl, lim_size hl, fin _⟩ hxl
  rcases hc with rfl | rfl
  · exact wpAny_bind (wpAny_holding (wpAny_pure (fmt P1.s.toks t)))
  · exact wpAny_bind (wpAny_holding (wpAny_habitSame_str (fmt P1.s.toks t) (fmt _ _) hxl))
theorem w_fstr1 {u : Nat} {x : Str} (h : Q (.str x) σ) : We fs (.JoinedStr [.Constant (.str x) u p] q) σ Q := We.lf (fun Φ P F ok Q E k => wpAny_JoinedStr_one (Constant_str (k _ _ _ (fun _ _ e => e) (.str _ _)))) h
theorem w_fstr {e' : Expr} (h : Wj fs (e :: e' :: es) Str.empty σ fun y s => y.length ≤ lim ∧ Q (.str y) s) : We fs (.JoinedStr (e :: e' :: es) q) σ Q := fun Φ P K E F ok k =>
  wpAny_JoinedStr (h Φ P _ E F ok fun P1 y σ1 l1 ok1 ⟨hl, q⟩ => ⟨lim_size hl, let ⟨ok2, l2⟩ := ok1.up (h' := P1.s.heap) (tk := P1.s.toks + 1) fun _ _ e => e; k _ _ _ σ1 (l1.trans l2) ok2 (.str _ _) q⟩)
inductive Dsp : List (Option Expr) → List Expr → List (Str × Int) → Prop
  | nil : Dsp [] [] []
  | cons {x : Str} {i : Int} {u u' : Nat} {p p' : Pos} {ks : List (Option Expr)} {vs : List Expr} {l : List (Str × Int)} (h : Dsp ks vs l) : Dsp (some (.Constant (.str x) u p) :: ks) (.Constant (.int i) u' p' :: vs) ((x, i) :: l)
theorem Okm.bump {C : Cx} {m : Addr → Option AObj} {ob : AObj} {h' : Heap} {tk : Nat} {o' : Obj} (k : Okm C m P) (hm : m a = some ob) (hb : ∀ b o, b ≠ a → P.s.heap.get? b = some o → h'.get? b = some o) (ho : h'.get? a = some o') (q : ∀ P', OP C P' ob o') : Okm C m (P.gr h' tk) ∧ Le P (P.gr h' tk) := by
  have hn := (k.objs a ob hm).1
  have l : Le P (P.gr h' tk) := ⟨fun {b o} i e => hb b o (fun z => hn (z ▸ i)) e, fun i => .inl i⟩
  refine ⟨⟨fun b o e => let ⟨x, y⟩ := k.base b o e; ⟨l.keep y x, .inl y⟩, fun b i => i.elim (fun i => (k.al b i).imp fun o e => l.keep i e) fun i => i.2.1, fun b ob₁ e => ?_, k.gens, k.os⟩, l⟩
  obtain ⟨x, y, o, z, w⟩ := k.objs b ob₁ e
  refine ⟨fun i => i.elim x fun i => nos (i.1.symm.trans z), y, ?_⟩
  by_cases hba : b = a
  · subst hba; exact ⟨o', ho, smj (hm.symm.trans e) ▸ q _⟩
  · exact ⟨o, hb b o hba z, w.le l⟩
theorem w_lam {b : Expr} {ar : Arg} {sc : Scope} (h1 : fs.lam = true) (h2 : sc.names.all (fun p => p.2 != .free) = true) (h : Q .lam σ) : We fs (.Lambda ⟨[], [ar], none, [], [], none, []⟩ b sc p) σ Q := fun Φ P K E F ok k => by
  obtain ⟨cp, hcp, hcode⟩ := F.lam h1
  obtain ⟨mg, hg, _, _, hb⟩ := F.cx.glob
  obtain ⟨ps0, hK⟩ := F.tabs cp hcp
  have hm : Φ.map σ cp.2 = some (.tab ps0) := by
    have hL : cp.2 ≠ Φ.env.locals := fun z => nos (F.kl.symm.trans (z ▸ hK))
    rw [map_N hL]
    cases e : σ.H cp.2 with
    | none => exact hK
    | some ob => exact son (hK.symm.trans (ok.dj _ _ e).1)
  obtain ⟨hni, _, o, hP, more, rfl, ht⟩ := ok.m.objs _ _ hm
  have hgs := hg.keeps ok.keep
  have hcl : closureFor sc Φ.env = pure [] := closureFor_none fun x hx => by
    have := List.all_eq_true.mp h2 x hx
    simpa using this
  obtain ⟨bm, ob, b1, b2, b3, b4, b5, b6⟩ := hb cp hcp
  have hbs : P.s.heap.BuiltinsAt mg cp.2 := ⟨bm, ob, b1, b2, b3, b4, ok.keep _ _ b5, b6⟩
  have hgP : mainGlobals ≠ cp.2 := fun q => by
    obtain ⟨o, es, ep, e, hd, _⟩ := hgs
    rw [q, hP] at e; obtain rfl := smj e; cases hd
  have hC : CodeHd P.s.heap cp.1 cp.2 := (F.cx.heads cp hcp).keeps ok.keep
  refine kla_eval rfl ?_
  cases hnf : codeAmong p (ps0 ++ more).toList with
  | some cv =>
    refine kla_makeFunctionHit hcl F.glob hgs hcode hC hP ht hnf hbs fun ctv h' tk hk hsz => ?_
    have hk2 : ∀ (ob : Obj) b o, P.s.heap.get? b = some o → (h'.push ob).get? b = some o := fun ob b o e => keep_push _ _ b o (hk b o e)
    obtain ⟨x, y⟩ := ok.up (tk := tk) (hk2 _)
    exact k _ _ _ σ y x (.lam (Heap.get?_push_size _ rfl) rfl rfl (im_new (get_size1 hsz) (Heap.get?_push_size _ rfl))) h
  | none =>
    refine kla_makeFunction hcl F.glob hgs hcode hC hP ht hnf hgP hbs fun c' ctv h' tk hx hge hlt hrec htb => ?_
    have hk2 : ∀ (ob : Obj) b o, b ≠ cp.2 → P.s.heap.get? b = some o → (h'.push ob).get? b = some o := fun ob b o hb e => keep_push _ _ b o (hx b o hb e)
    obtain ⟨x, y⟩ := ok.m.bump (tk := tk) hm (hk2 _) (keep_push _ _ _ _ htb) fun P' => ⟨more ++ #[rawInt p.line, rawInt p.col, .ref c'], by rw [← Array.append_assoc], by
      rw [← Array.append_assoc, Array.toList_append]
      exact TriplesOk_snoc _ _ _ _ ht⟩
    exact k _ _ _ σ y ⟨x, ok.dj⟩ (.lam (Heap.get?_push_size _ rfl) rfl rfl (im_new (get_size1 (Nat.le_trans hge (Nat.le_of_lt hlt))) (Heap.get?_push_size _ rfl))) h
end
section
variable {Φ : Fm} {fs : FS} {σ : St} {P : Pt} {x : Str} {xp cp p : Pos} {elt : Expr} {gens : List Comprehension} {sc : Scope} {K : AFlow → St → Prop} {a : Addr} {o : Obj}
theorem Ok.hideOld (ok : Ok Φ σ P) (nd : NewD Φ a) (hi : ¬ P.im a) (hH : σ.H a = none) (ho : P.s.heap.get? a = some o) : Ok (Φ.hide (one a o)) σ P ∧ Fre Φ (one a o) := by
  have h1 : one a o a = some o := if_pos rfl
  have h2 : ∀ b, b ≠ a → one a o b = none := fun b hb => if_neg hb
  refine ⟨⟨⟨ok.m.base, ok.m.al, fun b ob e => ?_, ok.m.gens, ok.m.os⟩, fun b ob e => ?_⟩, fun b o' e => ?_⟩
  · by_cases hb : b = a
    · rw [hb] at e ⊢
      rw [map_N (show a ≠ (Φ.hide (one a o)).env.locals from nd.2.1), hH, hide_some h1] at e
      exact ⟨hi, nd.2.2, o, ho, smj (show some (AObj.raw o) = some ob from e) ▸ rfl⟩
    · exact ok.m.objs b ob (by unfold Fm.map at e ⊢; rw [hide_none (h2 b hb)] at e; exact e)
  · have hb : b ≠ a := fun z => nos (hH.symm.trans (z ▸ e))
    rw [hide_none (h2 b hb)]; exact ok.dj b ob e
  · by_cases hb : b = a
    · rw [hb]; exact nd
    · exact nos ((h2 b hb).symm.trans e)
theorem x_asgC (h : Wco fs elt gens sc σ fun vs s => Wa fs (.Name x xp) (.lst vs) s fun s => K .next s) : W1 fs (.Assign [.Name x xp] (.ListComp elt gens sc cp) p) σ K := fun Φ P Q E F ff ok k => by
  rw [arm_exec_Assign]
  refine wpAny_bind (wpAny_standAt ?_)
  show wpAny _ _ (swapsWith (.ListComp elt gens sc cp) (some (.Name x xp)) p.line Φ.env >>= _) _ _ _
  refine wpAny_bind (wpAny_pure ?_)
  split
  · show wpAny _ _ (evalThenUse (.ListComp elt gens sc cp) Φ.env (assign (.Name x xp) Φ.env) >>= fun _ => pure Flow.next) _ _ _
    rw [arm_evalThenUse_ListComp]
    refine wpAny_bind (wpAny_bind (h Φ P _ _ _ _ F ok fun D Lc s' z => ?_))
    obtain ⟨P', acc, σ', e0, le, ok', q, nd, ⟨m, o, es, ep, ho, hm⟩, him, ndL, hL, hne⟩ := z
    obtain ⟨ok1, rv⟩ := ok'.putFreeze nd
    obtain ⟨ok2, fr⟩ := ok1.hideOld ndL (fun i => i.elim him hne) hL ho
    rw [e0]
    refine q (Φ.hide (one Lc o)) (P'.fr D) (.ref D) _ E (F.hide fr) ok2 rv fun P3 σ3 l3 ok3 z => ?_
    have ho3 := ok3.has fr Lc o (if_pos rfl)
    refine ⟨m, ⟨o, es, ep, ho3, hm⟩, fun h' hs => ?_⟩
    obtain ⟨ok4, l4⟩ := ok3.leave (h' := h') (tk := P3.s.toks) fr fun b o' hb e => (hs.2 b fun q => son ((if_pos q).symm.trans hb)).trans e
    exact wpAny_pure (wpAny_pure (k _ .next .next σ3 (le.trans (fr_le.trans (l3.trans l4))) ok4 .next z))
  · refine wpAny_bind (w_comp (Qv := fun v s => Wa fs (.Name x xp) v s fun s => K .next s) (p := cp) h Φ P _ E F ok fun P1 y v σ1 l1 ok1 r1 z => ?_)
    refine wpAny_bind (wpAny_pure ?_)
    show wpAny _ _ (assignAll y [assign (.Name x xp) Φ.env] >>= fun _ => pure Flow.next) _ _ _
    exact wpAny_bind (z Φ P1 y _ E F ok1 r1 fun P2 σ2 l2 ok2 z => wpAny_pure (k P2 .next .next σ2 (l1.trans l2) ok2 .next z))
end
end Mine
end
section
namespace Mine
open PySem PySem.W PyProof.Rows PySem.Calls PySem.SeqAt
theorem boot_stop : bootBuiltins (Str.ofString "StopIteration") = some (.type "StopIteration") := by kernel_rfl
theorem isExc_stop : isSubtype (.type "StopIteration") (.type "BaseException") = pure true := by rw [isSubtype_type]; kernel_rfl
theorem notTuple_stop : isSubtype (.type ((Manifest.find? "StopIteration").elim "type" fun x => x.metatype)) (.type "tuple") = pure false := by rw [isSubtype_type]; kernel_rfl
theorem self_stop : isSubtype (.type "StopIteration") (.type "StopIteration") = pure true := by rw [isSubtype_type]; kernel_rfl
section
variable {prog : Program} {w : World} {A : Around} {E : Value → Shared → Prop} {s : Shared}
noncomputable def gone (s : Shared) (b : Addr) : Heap := s.heap.update b (Obj.mapFields (·.setIfInBounds 0 .none))
theorem next_end {b l : Addr} {i : Nat} {its : Array Value} {n : Nat} {R : Result → Shared → Prop} (hh : A.handled = none) (hb : s.heap.get? b = some { cls := .type "list_iterator", data := .fields #[.ref l, rawInt i] })
    (hl : s.heap.get? l = some { cls := .type "list", data := .seq its n }) (hx : its[i]? = none) (h : ∀ h' e, Heap.MadeExc (gone s b) h' e "StopIteration" [] → R (.error (.ref e)) { s with heap := h' }) :
    codeAny (model prog w) A (.builtin "list_iterator.__next__" ⟨[.ref b], []⟩) R s := by
  refine codeAny_builtin entry_listiter_next ?_
  show wpAny _ _ (field (.ref b) 0 >>= _) _ _ s
  refine wpAny_bind (wpAny_field hb rfl (x := .ref l) rfl ?_)
  show wpAny _ _ (if (Value.ref l == Value.none) = true then _ else _) _ _ s
  rw [if_neg (show ¬ ((Value.ref l == Value.none) = true) from Bool.false_ne_true)]
  show wpAny _ _ (field (.ref b) 1 >>= _) _ _ s
  refine wpAny_bind (wpAny_field hb rfl (x := .int i 0) rfl ?_)
  show wpAny _ _ (seqItems? (.ref l) >>= _) _ _ s
  refine wpAny_bind (wpAny_seqItems hl rfl ?_)
  simp only [Int.toNat_natCast, hx]
  refine wpAny_bind (wpAny_rule (wpAny_bind (wpAny_setField hb rfl (by simp) ?_)))
  show wpAny _ _ (newExc (.type "StopIteration") [] >>= _) _ _ _
  refine wpAny_bind ?_
  simp only [newExc, newTuple]
  refine wpAny_bind (wpAny_newObj_type ?_ (by size_fits))
  refine wpAny_bind (m := firstArgMember _ _) (wpAny_of_eq (a := Value.none) (by first | rfl | (simp only [firstArgMember]; rfl)) ?_)
  refine wpAny_newObj_type ?_ (by size_fits)
  refine wpAny_raiseNew_none hh (h _ _ ⟨fun c o e => keep_push _ _ _ _ (keep_push _ _ _ _ e), get_size1 (by dsimp only; rw [Heap.size_push]; exact Nat.le_succ _), _, Heap.get?_push_size _ rfl, get_size _, keep_push _ _ _ _ (Heap.get?_push_size _ rfl)⟩)
theorem next_item {b l : Addr} {i : Nat} {its : Array Value} {n : Nat} {x : Value} {R : Result → Shared → Prop} (hb : s.heap.get? b = some { cls := .type "list_iterator", data := .fields #[.ref l, rawInt i] })
    (hl : s.heap.get? l = some { cls := .type "list", data := .seq its n }) (hx : its[i]? = some x) (h : ∀ h', Heap.SameBut b s.heap h' → h'.get? b = some { cls := .type "list_iterator", data := .fields #[.ref l, rawInt (i + 1 : Nat)] } → R (.ok (.ret x)) { s with heap := h' }) :
    codeAny (model prog w) A (.builtin "list_iterator.__next__" ⟨[.ref b], []⟩) R s := by
  refine codeAny_builtin entry_listiter_next ?_
  show wpAny _ _ (field (.ref b) 0 >>= _) _ _ s
  refine wpAny_bind (wpAny_field hb rfl (x := .ref l) rfl ?_)
  show wpAny _ _ (if (Value.ref l == Value.none) = true then _ else _) _ _ s
  rw [if_neg (show ¬ ((Value.ref l == Value.none) = true) from Bool.false_ne_true)]
  show wpAny _ _ (field (.ref b) 1 >>= _) _ _ s
  refine wpAny_bind (wpAny_field hb rfl (x := .int i 0) rfl ?_)
  show wpAny _ _ (seqItems? (.ref l) >>= _) _ _ s
  refine wpAny_bind (wpAny_seqItems hl rfl ?_)
  simp only [Int.toNat_natCast, hx]
  refine wpAny_bind (wpAny_setField hb rfl (by simp) (wpAny_pure (h _ (Heap.SameBut.update ..) ?_)))
  exact Heap.get?_update_self _ hb rfl
theorem wpAny_note_first {base h : Heap} {env : Env} {outer : List Env} {L e : Addr} {cls : String} {args : List Value} {Q : Unit → Shared → Prop} (hfr : A.frames = some (env :: outer)) (hf : env.frame = some L) (hkb : base.StaysIn h) (hl : h.FunFrames base (env :: outer))
    (hx : Heap.MadeExc h s.heap e cls args) (hQ : ∀ h' a0, Heap.FlyingW base (env :: outer) e (.type cls) a0 h' → h.UpToSlots h' → Q () { s with heap := h' }) :
    wpAny (model prog w) A (noteFrame (.ref e) env) (fun _ s₂ => wpAny (model prog w) A (setFlight (.ref e) none) Q E s₂) E s := by
  obtain ⟨t, he, htn, ht⟩ := hx.there
  have fresh : ∀ b, h.get? b = none → base.get? b = none := fun b hb => by
    cases hq : base.get? b with
    | none => rfl
    | some o' => have := hkb b o' hq; rw [hb] at this; exact nos this
  unfold noteFrame
  simp only [hf]
  refine wpAny_bind (wpAny_field he rfl (x := .none) rfl ?_)
  rw [if_neg (by decide)]
  refine wpAny_newEntryW (a0 := .ref t) hfr (hl.of_keeps fun b o hb _ => ⟨o, hx.keeps b o hb, rfl⟩) hf he (fun b o hb => hx.keeps b o (hkb b o hb)) (fresh e hx.new) rfl (by simp) rfl fun h' hL => ?_
  obtain ⟨k1, k2, k3, k4⟩ := hL
  exact hQ h' _ ⟨k1, fresh e hx.new, k2, k3⟩ fun b o hb hn => k4 b o (hx.keeps b o hb) hn
end
section
variable {A : Around} {s : Shared}
theorem delItem_ep {prog : Program} {w : World} {Ky : Type} [DecidableEq Ky] {knd : PySem.KeyKind prog w Ky} {E : Value → Shared → Prop} {d : Addr} {key : Value} {k : Ky} {kvs : List (Ky × Value)} {ep : Nat} {Q : Unit → Shared → Prop}
    (hkey : knd.is k key = true) (hm : s.heap.DictAt knd d kvs ep) (hsz : kvs.length ≤ sizeLine) (hin : k ∈ kvs.map (·.1))
    (hQ : ∀ h', h'.DictAt knd d (without kvs k) (ep + 1) → Heap.SameBut d s.heap h' → Q () { s with heap := h', toks := s.toks + 1 }) :
    wpAny (model prog w) A (delItem (.ref d) key) Q E s := by
  obtain ⟨o, es, ho, hc, hd, hk, hp, hn⟩ := id hm
  have hz : es.size ≤ sizeLine := by rw [← Array.length_toList, hp.length]; exact hsz
  have hT := hm.dictOf.typeIs
  refine wpAny_delItem_slot hT (by decide) PySem.F.slot_dict_delitem (wpAny_call_entry PySem.F.slot_dict_delitem hT PySem.F.entry_dict_delitem ?_ (PySem.F.args_dict_delitem_2 _ _))
  unfold Builtin.«dict.__delitem__»
  refine wpAny_bind ?_
  unfold Builtin.Dict.dictSlotArgs
  refine wpAny_bind (wpAny_notOrdered_dict hT ?_)
  show wpAny _ _ (pure (Value.ref d, key)) _ _ s
  refine wpAny_pure ?_
  show wpAny _ _ (Builtin.Dict.takeOut d key >>= _) _ _ s
  refine wpAny_bind ?_
  unfold Builtin.Dict.takeOut
  try with_reducible refine wpAny_holding ?_
  refine wpAny_bind (knd.pyHash hkey (wpAny_bind (wpAny_dictFind_of (s := { s with toks := s.toks + 1 }) hkey ho hd hk ?_)))
  have hi : (es.toList.findIdx? fun e => knd.is k e.key) = kvs.findIdx? fun kv => decide (kv.1 = k) := hp.findIdx k
  have hi' : (es.findIdx? fun e => knd.is k e.key) = kvs.findIdx? fun kv => decide (kv.1 = k) := by rw [← hi, ← List.findIdx?_toArray]
  cases hx : es.findIdx? fun e => knd.is k e.key with
  | none => exact absurd hin (not_mem_of_findIdx_none (hi' ▸ hx))
  | some i =>
    have hl : (es.toList.findIdx? fun e => knd.is k e.key) = some i := hi.trans (hi' ▸ hx)
    obtain ⟨en, hen, _, _⟩ := hp.at hl
    refine wpAny_bind (wpAny_dictEntries (s := { s with toks := s.toks + 1 }) ho hd ?_)
    rw [show es[i]? = some en by rw [← Array.getElem?_toList]; exact hen]
    refine wpAny_bind (wpAny_updateDictKeys (hz := hz) (s := { s with toks := s.toks + 1 }) ho hd (wpAny_pure (wpAny_bind (wpAny_letGo (wpAny_pure ⟨.none, rfl, hQ _ ⟨_, _, Heap.get?_update_self _ ho (Obj.isFreed_of_dict (Obj.data_mapDictKeys hd _)),
      hc.mapDictKeys _, Obj.data_mapDictKeys hd _, hk.erase _, ?_, nodup_without hn k⟩ (Heap.SameBut.update ..)⟩)))))
    rw [Array.toList_eraseIdxIfInBounds]
    exact hp.erase hn hl
end
structure FrX (Φ : Fm) (fs : FS) : Prop where
  cx : CxOk Φ.C
  T : Φ.C.T = fs.T
  scope : Φ.env.scope = fs.scope
  kind : fs.scope.kind = .function
noncomputable def kvDel (k : Int) (es : List (Int × AV)) : List (Int × AV) := es.filter fun p => p.1 != k
noncomputable def Whs (fs : FS) (ss : List Stmt) (σ : St) (Qs : St → Prop) : Prop :=
  ∀ Φ P K E, FrX Φ fs → Ok Φ σ P → (∀ P' σ', Le P P' → Ok Φ σ' P' → Qs σ' → K .next P'.s) → wpAny Φ.M Φ.A (execs ss Φ.env) K E P.s
section
variable {Φ : Fm} {fs : FS} {σ : St} {P : Pt} {x z : Str} {v : AV} {vs : List AV} {l d : Addr} {i : Int} {p p1 p2 p3 p4 p5 p6 p7 p8 : Pos} {ss : List Stmt} {Qs : St → Prop} {K : AFlow → St → Prop}
theorem FrX.kn (F : FrX Φ fs) : Φ.env.scope.kind = .function := F.scope ▸ F.kind
theorem loc_x (h : isK fs x .local = true) (hv : σ.ns.lookup x = some v) (F : FrX Φ fs) (ok : Ok Φ σ P) {Q E : Value → Shared → Prop} (k : ∀ y, VR P v y → Q y P.s) : wpAny Φ.M Φ.A (eval (.Name x p) Φ.env) Q E P.s := by
  obtain ⟨m, hn, q⟩ := ns_at ok
  obtain ⟨y, hy, ry⟩ := q hv
  have h := Bool.and_eq_true_iff.mp h
  have h2 := bad1 (Bool.not_eq_true' _ ▸ h.2)
  exact wpAny_Name (wpAny_loadName_local F.kn (by unfold Env.kindOf; rw [F.scope]; exact eq_of_beq h.1) hn hy (k y ry)) (beq_eq_false_iff_ne.mpr h2.1)
theorem hs_nil (q : Qs σ) : Whs fs [] σ Qs := fun Φ P K E F ok k => wpAny_pure (k P σ Le.refl ok q)
theorem pop_x {apos : Pos} (hl : (apos.endLine == p.line) = true) (h : isK fs x .local = true) (hv : σ.ns.lookup x = some (.con (.ref l))) (hH : σ.H l = some (.list vs)) (hw : vs.getLast? = some v) (hz : vs.length ≤ lim) (F : FrX Φ fs) (ok : Ok Φ σ P) {K E : Value → Shared → Prop}
    (k : ∀ P' y, Le P P' → Ok Φ (σ.set l (.list vs.dropLast)) P' → VR P' v y → K y P'.s) : wpAny Φ.M Φ.A (eval (.Call (.Attribute (.Name x p1) "pop" apos) [] [] p) Φ.env) K E P.s := by
  refine Call_method0 rfl hl (loc_x h hv F ok fun y ry => ?_)
  obtain rfl : y = .ref l := ry.inv
  obtain ⟨o, e, its, n, rfl, q⟩ := ok.obj hH
  refine ⟨"list", "list.pop", PySem.F.plainAttrs_list, PySem.F.slot_list_pop, PySem.F.type_list_pop, ⟨_, e, rfl⟩, fun a z => Value.ref.inj z ▸ ⟨_, e, rfl⟩, callWith_builtin rfl (PySem.evalArgs_none ?_)⟩
  rw [List.getLast?_eq_getElem?] at hw
  obtain ⟨y, hy, ry⟩ := q.get hw
  refine call_meets PySem.F.slot_list_pop ⟨_, e, rfl⟩ PySem.F.entry_list_pop (PySem.F.args_list_pop_1 _) (MeetsSeq.list_pop_last l its n y (by rw [q.size, ← Array.getElem?_toList]; exact hy) (by rw [q.size]; exact lim_size hz)) ⟨e, ?_⟩
  obtain ⟨n', hm⟩ := mapSeq_at (fun xs => xs.eraseIdxIfInBounds (its.size - 1)) e
  obtain ⟨a, b⟩ := ok.set (tk := P.s.toks) (ob' := .list vs.dropLast) hH (Heap.SameBut.update P.s.heap l _) hm ⟨_, n', rfl, by
    rw [show (its.eraseIdxIfInBounds (its.size - 1)).toList = its.toList.dropLast by rw [Array.toList_eraseIdxIfInBounds, ← Array.length_toList, List.eraseIdx_length_sub_one]]; exact q.dropLast⟩
  exact k _ _ b a (ry.le b)
theorem hs_pop {apos : Pos} (hl : (apos.endLine == p.line) = true) (h : isK fs x .local = true) (hv : σ.ns.lookup x = some (.con (.ref l))) (hH : σ.H l = some (.list vs)) (hw : vs.getLast? = some v) (hz : vs.length ≤ lim) (q : Whs fs ss (σ.set l (.list vs.dropLast)) Qs) :
    Whs fs (.Expr (.Call (.Attribute (.Name x p1) "pop" apos) [] [] p) p2 :: ss) σ Qs := fun Φ P K E F ok k =>
  wpAny_execs_cons (wpAny_Expr_any (pop_x hl h hv hH hw hz F ok fun P1 y l1 ok1 r1 => q Φ P1 K E F ok1 fun P2 σ2 l2 => k P2 σ2 (l1.trans l2)) (by unfold interactive; rw [F.kn]; rfl) rfl)
theorem hs_set {b : Bool} {u : Nat} (h : isL fs x .local = true) (q : Whs fs ss (σ.put x (.bool b)) Qs) : Whs fs (.Assign [.Name x p] (.Constant (.bool b) u p1) p2 :: ss) σ Qs := fun Φ P K E F ok k => by
  refine wpAny_execs_cons (wpAny_Assign_stores (targets := [.Name x p]) ?_ rfl rfl)
  rw [eval_Constant]
  refine wpAny_pure ?_
  obtain ⟨m, hn, hq⟩ := ns_at ok
  show wpAny _ _ (assign (.Name x p) Φ.env (.bool b)) _ _ _
  refine wpAny_bind (wpAny_standAt (wpAny_bindName (wpAny_storeName_local (hp := by rw [F.kn]; rfl) (by unfold Env.kindOf; rw [F.scope]; exact eq_of_beq h) hn fun h' hn' hs => ?_)))
  obtain ⟨a, c⟩ := ok.put (tk := P.s.toks + 1) hs hq hn' (.bool b)
  exact q Φ _ K E F a fun P2 σ2 l2 => k P2 σ2 (c.trans l2)
theorem vrs_without {Q : Pt} (k : Int) : ∀ {es : List (Int × AV)} {kvs : List (Int × Value)}, KVR Q es kvs → KVR Q (kvDel k es) (without kvs k)
  | [], [], _ => ⟨rfl, .nil⟩
  | [], _ :: _, e => nomatch e.1
  | _ :: _, [], e => nomatch e.1
  | (a, v) :: es, (b, x) :: kvs, e => by
    have e1 := List.cons.inj e.1
    have r := VRs.uncons (show VRs Q (v :: es.map (·.2)) (x :: kvs.map (·.2)) from e.2)
    obtain ⟨i1, i2⟩ := vrs_without k (es := es) (kvs := kvs) ⟨e1.2, r.2⟩
    have e2 : a = b := e1.1
    subst e2
    unfold kvDel without at *
    by_cases hk : a = k
    · rw [List.filter_cons_of_neg (by simp [hk]), List.filter_cons_of_neg (by simp [hk])]
      exact ⟨i1, i2⟩
    · rw [List.filter_cons_of_pos (by simp [hk]), List.filter_cons_of_pos (by simp [hk])]
      exact ⟨by rw [List.map_cons, List.map_cons, i1], .cons r.1 i2⟩
theorem hs_del {es : List (Int × AV)} {ep : Nat} {y : Str} {apos : Pos} (hl : (apos.endLine == p.line) = true) (hy : isK fs y .local = true) (hyv : σ.ns.lookup y = some (.con (.ref d))) (hd : σ.H d = some (.dictI es ep)) (h : isK fs x .local = true) (hv : σ.ns.lookup x = some (.con (.ref l))) (hH : σ.H l = some (.list vs))
    (hw : vs.getLast? = some (.int i)) (hz : vs.length ≤ lim) (hin : i ∈ es.map (·.1)) (hes : es.length ≤ lim) (q : Whs fs ss ((σ.set l (.list vs.dropLast)).set d (.dictI (kvDel i es) (ep + 1))) Qs) :
    Whs fs (.Delete [.Subscript (.Name y p1) (.Call (.Attribute (.Name x p2) "pop" apos) [] [] p) p3] p4 :: ss) σ Qs := fun Φ P K E F ok k => by
  refine wpAny_execs_cons ?_
  rw [arm_exec_Delete]
  refine wpAny_bind (wpAny_standAt (wpAny_bind ?_))
  show wpAny _ _ (delete _ Φ.env >>= fun _ => pure ()) _ _ _
  refine wpAny_bind (delete_Subscript (loc_x hy hyv F ok fun yv ry => ?_))
  obtain rfl : yv = .ref d := ry.inv
  refine pop_x hl h hv hH hw hz F ok fun P1 u l1 ok1 r1 => r1.eI fun t => ?_
  have hne : d ≠ l := fun z => by subst z; exact nomatch hd.symm.trans hH
  have hd1 : (σ.set l (.list vs.dropLast)).H d = some (.dictI es ep) := (upd_ne hne).trans hd
  obtain ⟨o, e, kvs, hdo, hk⟩ := ok1.obj hd1
  have hlen : kvs.length = es.length := by have := congrArg List.length hk.1; simpa using this.symm
  refine delItem_ep (knd := intKind Φ.C.prog Φ.C.w) (intKind_is _ _ i _) (hdo.at e) (by rw [hlen]; exact lim_size hes) (by rw [← hk.1]; exact hin) fun h' hd' hs => ?_
  obtain ⟨o', g', d'⟩ := DictObj.of hd'
  obtain ⟨a, b⟩ := ok1.set (tk := P1.s.toks + 1) (ob' := .dictI (kvDel i es) (ep + 1)) hd1 hs g' ⟨_, d', vrs_without i hk⟩
  exact wpAny_pure (wpAny_pure (q Φ _ K E F a fun P2 σ2 l2 => k P2 σ2 (l1.trans (b.trans l2))))
theorem Okm.upto {C : Cx} {m : Addr → Option AObj} {h' : Heap} {tk : Nat} {fr J : List Addr} (k : Okm C m P) (hf : ∀ b ∈ fr, ∃ ns, m b = some (.loc ns)) (hj : ∀ b ∈ J, ¬ P.im b ∧ m b = none) (k1 : ∀ b o, P.s.heap.get? b = some o → b ∉ fr → b ∉ J → h'.get? b = some o)
    (k2 : ∀ b o, P.s.heap.get? b = some o → b ∈ fr → ∃ sl, h'.get? b = some { o with slots := sl }) : Okm C m (P.gr h' tk) ∧ Le P (P.gr h' tk) := by
  have ni : ∀ {b}, P.im b → b ∉ fr := fun i z => let ⟨ns, e⟩ := hf _ z; (k.objs _ _ e).1 i
  have l : Le P (P.gr h' tk) := ⟨fun i e => k1 _ _ e (ni i) fun z => (hj _ z).1 i, fun i => .inl i⟩
  refine ⟨⟨fun b o e => let ⟨x, y⟩ := k.base b o e; ⟨l.keep y x, .inl y⟩, fun b i => i.elim (fun i => (k.al b i).imp fun o e => l.keep i e) fun i => i.2.1, fun b ob e => ?_, k.gens, k.os⟩, l⟩
  obtain ⟨x, y, o, z, w⟩ := k.objs b ob e
  refine ⟨fun i => i.elim x fun i => nos (i.1.symm.trans z), y, ?_⟩
  by_cases hb : b ∈ fr
  · obtain ⟨ns, e'⟩ := hf b hb
    obtain rfl := smj (e.symm.trans e')
    obtain ⟨sl, g⟩ := k2 b o z hb
    obtain ⟨m, hm, r⟩ := w
    exact ⟨_, g, m, hm, NsR.le r l⟩
  · exact ⟨o, k1 b o z hb fun q => nos ((hj b q).2.symm.trans e), w.le l⟩
theorem suite_ok {e : Addr} {cls a0 : Value} {h₅ : Heap} {A : Around} {J : List Addr} (F : FrOk Φ fs) (ok : Ok Φ σ P) (hj : ∀ b ∈ J, ¬ P.im b ∧ Φ.map σ b = none) (hu : P.s.heap.UpToSlots h₅) (hfl : Heap.FlyingW (hideAll P.s.heap (J ++ Φ.fr.filterMap (·.frame))) Φ.fr e cls a0 h₅) (h : Whs fs ss σ Qs) {Q : Flow → Shared → Prop} {E E' : Value → Shared → Prop}
    (q : ∀ P' σ', Le P P' → Ok Φ σ' P' → Qs σ' → Q .next P'.s) :
    wpAny Φ.M A (setFlight (.ref e) none) (fun _ s₂ => wpAny Φ.M A (execs ss Φ.env) Q E s₂) E' { P.s with heap := h₅ } := by
  refine lands_againW hfl fun h₆ hfl₆ hsm₆ => ?_
  have hu₆ := hu.trans hsm₆
  obtain ⟨ok1, l1⟩ := ok.m.upto (tk := P.s.toks) (frames_loc F ok) hj (fun b o e hF hJ => hfl₆.1 b o (hideAll_get _ e fun z => (List.mem_append.mp z).elim hJ hF)) fun b o e hF => hu₆ b o e fun vs z => by
    obtain ⟨ns, e'⟩ := frames_loc F ok b hF
    obtain ⟨_, _, o', g, m, ⟨es, ep, d, _⟩, _⟩ := ok.m.objs _ _ e'
    obtain rfl := smj (e.symm.trans g)
    exact nomatch z.symm.trans d
  exact h { Φ with A := A } _ Q E ⟨F.cx, F.T, F.scope, F.kind⟩ ⟨ok1, ok.dj⟩ fun P2 σ2 l2 ok2 => q P2 σ2 (l1.trans l2) ⟨ok2.m, ok2.dj⟩
theorem x_try1 {o i : Expr} {b0 : Stmt} {bs : List Stmt} (hz : (fs.scope.names.lookup ("StopIteration" : Str) == some .globalImplicit) = true) (hg : fs.T.glob "StopIteration" = none)
    (h : We fs (.Subscript o i p1) σ fun v s => ∃ l m k vs, v = .bm "list_iterator.__next__" l ∧ s.H l = some (.iter m k) ∧ s.H m = some (.list vs) ∧ (∀ w, vs[k]? = some w → Ws fs x w (s.set l (.iter m (k + 1))) fun s => K .brk s) ∧ (vs[k]? = none → Whs fs (b0 :: bs) (s.set l .dead) fun s => K .next s)) :
    W1 fs (.Try [.Assign [.Name x p2] (.Call (.Subscript o i p1) [] [] p3) p4, .Break p5] [.ExceptHandler (some (.Name "StopIteration" p6)) none (b0 :: bs) p7] [] [] p8) σ K := fun Φ P Q E F ff ok q => by
  refine wpAny_Try_except (wpAny_execs_cons (wpAny_Assign_stores ?_ rfl rfl))
  show wpAny _ _ (eval (.Subscript o i p1) Φ.env >>= fun f => callWith p3 f [] (backTo p3 (starEach [] Φ.env)) []) _ _ _
  refine wpAny_bind (h Φ P _ _ F ok fun P1 y v σ1 l1 ok1 r1 z => ?_)
  obtain ⟨l, m, k, vs, e0, hI, hm, hA, hB⟩ := z
  subst e0
  refine r1.eBm fun a ea im => ?_
  obtain ⟨oi, gi, rfl⟩ := ok1.obj hI
  obtain ⟨ol, gl, its, nn, rfl, q3⟩ := ok1.obj hm
  refine callWith_of (P := fun h => h.get? a = some (bmObj "list_iterator.__next__" l)) rfl (fun h e => ⟨.machine, .inr (.inl rfl), by
    unfold keeperOf
    refine (Looks.ld (part := none) e).andThen ?_
    unfold bmObj bmKind
    dsimp only
    split <;> exact Looks.now⟩) (PySem.evalArgs_none ⟨ea, ?_⟩)
  refine wpAny_call (call_bm ea (fun A Q E hq => bound_next hq) (Code.quiet_builtin _ (by decide +kernel)) ?_)
  cases hv : vs[k]? with
  | some w =>
    obtain ⟨y, hy, ry⟩ := q3.get hv
    refine next_item gi gl (by rw [← Array.getElem?_toList]; exact hy) fun h' hs' hb' => ?_
    obtain ⟨ok2, l2⟩ := ok1.set (tk := P1.s.toks) (ob' := .iter m (k + 1)) hI hs' hb' rfl
    show wpAny _ _ (assign (.Name x p2) Φ.env y) _ _ _
    refine wpAny_bind (wpAny_standAt (hA w hv Φ _ y _ _ F ok2 (ry.le l2) fun P3 σ3 l3 ok3 z => ?_))
    refine wpAny_execs_cons ?_
    rw [arm_exec_Break]
    exact wpAny_bind (wpAny_standAt (wpAny_pure (q P3 .brk .brk σ3 (l1.trans (l2.trans l3)) ok3 .brk z)))
  | none =>
    refine next_end F.handled gi gl (by rw [← Array.getElem?_toList]; exact q3.none hv) fun h' ex hmx => ?_
    obtain ⟨ok2, l2⟩ := ok1.set (tk := P1.s.toks) (ob' := .dead) (h' := gone P1.s l) hI (Heap.SameBut.update ..) (Heap.get?_update_self _ gi rfl) rfl
    obtain ⟨hf, outer, hfo⟩ := ff
    have hlF : (gone P1.s l).FunFrames (hideAll (gone P1.s l) (Φ.fr.filterMap (·.frame))) Φ.fr := ff_of fun env he => by
      obtain ⟨hk, L, e, _, _⟩ := F.fk env he
      have hin : L ∈ Φ.fr.filterMap (·.frame) := List.mem_filterMap.mpr ⟨env, he, e⟩
      obtain ⟨ns, e'⟩ := frames_loc F ok2 L hin
      obtain ⟨_, _, o', g, m, ⟨es, ep, d, _⟩, _⟩ := ok2.m.objs _ _ e'
      exact ⟨hk, L, o', e, hideAll_none _ hin, g, fun vs z => nomatch z.symm.trans d⟩
    refine wpAny_note_first (s := { P1.s with heap := h' }) (base := hideAll (gone P1.s l) (Φ.fr.filterMap (·.frame))) (outer := outer) (by rw [← hfo]; exact F.frames) hf (fun b o q => of_hideAll _ q) (hfo ▸ hlF) hmx fun h₅ a0 hfl hu => ?_
    rw [← hfo] at hfl
    refine wpAny_handleBy_builtin (X := "StopIteration") (T := "StopIteration") (b := true) isExc_stop notTuple_stop self_stop ?_
    obtain ⟨mg, hg1, _, hn, _⟩ := F.cx.glob
    obtain ⟨mb, hb, ht⟩ := F.cx.blt
    have keepB : ∀ b o, Φ.C.B.get? b = some o → h₅.get? b = some o := fun b o e => by
      have i := (ok2.m.base b o e)
      exact hfl.1 b o (hideAll_get _ i.1 fun z => let ⟨ns, e'⟩ := frames_loc F ok2 b z; (ok2.m.objs _ _ e').1 i.2)
    refine Name_function_global F.kn (by unfold Env.kindOf; rw [F.scope]; exact eq_of_beq hz) (loadGlobal_builtin (by rw [F.glob]; exact hg1.keeps keepB) (hn "StopIteration" (F.T ▸ hg) (by rw [boot_stop]; rfl) (by decide +kernel)) (by rw [F.blt]; exact hb.keeps keepB) ((ht _ (by decide +kernel)).trans boot_stop) ?_) (by decide +kernel)
    refine ⟨rfl, hfl.there, ?_⟩
    rw [if_pos rfl]
    exact suite_ok (J := []) F ok2 nofun hu hfl (hB hv) fun P4 σ4 l4 ok4 z => q P4 .next .next σ4 (l1.trans (l2.trans l4)) ok4 .next z
end
end Mine
end
section
namespace Mine
open PySem PySem.W PyProof.Rows PySem.Calls PySem.SeqAt
noncomputable def locs (sc : Scope) : List Str := (sc.names.filter fun p => p.2 == .local).map (·.1)
noncomputable def lay : List Str → List (Option AV) → List (Str × AV)
  | k :: ks, u :: us => u.elim (lay ks us) fun v => (k, v) :: lay ks us
  | _, _ => []
noncomputable abbrev V (fs : FS) (H : Addr → Option AObj) (us : List (Option AV)) : St := ⟨H, lay (locs fs.scope) us⟩
noncomputable def at1 : List Str → Str → Nat → Bool
  | k :: _, x, 0 => k == x
  | k :: ks, x, i + 1 => k != x && at1 ks x i
  | [], _, _ => false
noncomputable def ndk : List Str → Bool
  | [] => true
  | k :: ks => !ks.contains k && ndk ks
noncomputable def plc (sc : Scope) (x : Str) (i : Nat) : Bool := at1 (locs sc) x i && sc.names.lookup x == some .local && !badName x
noncomputable def mask (us ws : List (Option AV)) : List (Option AV) := us.zipWith (fun u w => u.bind fun _ => w) ws
theorem lay_get {v : AV} : ∀ {ks : List Str} {us : List (Option AV)} {x : Str} {i : Nat}, at1 ks x i = true → us[i]? = some (some v) → (lay ks us).lookup x = some v
  | [], _, _, _, h, _ => ff h
  | k :: ks, [], _, _, _, e => nos e
  | k :: ks, u :: us, x, 0, h, e => by
    obtain rfl := smj e
    show List.lookup x ((k, v) :: _) = _
    rw [List.lookup_cons, beq_iff_eq.mpr (eq_of_beq h).symm]
  | k :: ks, u :: us, x, i + 1, h, e => by
    obtain ⟨h1, h2⟩ := Bool.and_eq_true_iff.mp h
    have r := lay_get h2 (show us[i]? = _ from e)
    cases u with
    | none => exact r
    | some w =>
      show List.lookup x ((k, w) :: _) = _
      rw [List.lookup_cons, beq_eq_false_iff_ne.mpr fun z => bne_iff_ne.mp h1 z.symm]; exact r
theorem lay_set {w : AV} {x z : Str} (hz : z ≠ x) : ∀ {ks : List Str} {us : List (Option AV)} {i : Nat}, at1 ks x i = true → (lay ks (us.set i (some w))).lookup z = (lay ks us).lookup z
  | [], _, _, h => ff h
  | k :: ks, [], i, h => rfl
  | k :: ks, u :: us, 0, h => by
    have hk := eq_of_beq h
    have e : ∀ {l : List (Str × AV)} {v : AV}, List.lookup z ((k, v) :: l) = l.lookup z := by
      intro l v; rw [List.lookup_cons, beq_eq_false_iff_ne.mpr fun q => hz (q.trans hk)]
    cases u with
    | none => exact e
    | some v => exact e.trans e.symm
  | k :: ks, u :: us, i + 1, h => by
    have r := lay_set (w := w) (us := us) hz (Bool.and_eq_true_iff.mp h).2
    cases u with
    | none => exact r
    | some v => show List.lookup z ((k, v) :: _) = List.lookup z ((k, v) :: _); rw [List.lookup_cons, List.lookup_cons, r]
theorem lay_in {z : Str} {w : AV} : ∀ {ks : List Str} {us : List (Option AV)}, (lay ks us).lookup z = some w → z ∈ ks
  | [], [], h => nos h
  | [], _ :: _, h => nos h
  | _ :: _, [], h => nos h
  | k :: ks, u :: us, h => by
    cases u with
    | none => exact List.mem_cons_of_mem _ (lay_in (us := us) h)
    | some v =>
      have h : List.lookup z ((k, v) :: lay ks us) = some w := h
      rw [List.lookup_cons] at h
      cases hk : z == k with
      | true => exact beq_iff_eq.mp hk ▸ List.mem_cons_self
      | false => rw [hk] at h; exact List.mem_cons_of_mem _ (lay_in h)
theorem lay_mask {z : Str} {w : AV} : ∀ {ks : List Str} {us ws : List (Option AV)}, ndk ks = true → (lay ks (mask us ws)).lookup z = some w → (lay ks ws).lookup z = some w
  | [], us, ws, _, h => nos (show (none : Option AV) = some w from by cases e : mask us ws <;> rw [e] at h <;> exact h)
  | k :: ks, [], _, _, h => nos h
  | k :: ks, _ :: _, [], _, h => nos h
  | k :: ks, u :: us, v :: ws, hn, h => by
    obtain ⟨h1, h2⟩ := Bool.and_eq_true_iff.mp hn
    have tail : (lay ks (mask us ws)).lookup z = some w → List.lookup z (lay (k :: ks) (v :: ws)) = some w := fun h' => by
      have r := lay_mask h2 h'
      cases v with
      | none => exact r
      | some b =>
        show List.lookup z ((k, b) :: _) = _
        have : z ≠ k := fun q => by
          have hc : ks.contains k = true := List.contains_iff_mem.mpr (q ▸ lay_in r)
          rw [hc] at h1; exact ff h1
        rw [List.lookup_cons, beq_eq_false_iff_ne.mpr this]; exact r
    cases u with
    | none => exact tail h
    | some a =>
      cases v with
      | none => exact tail h
      | some b =>
        have h : List.lookup z ((k, b) :: lay ks (mask us ws)) = some w := h
        show List.lookup z ((k, b) :: lay ks ws) = some w
        rw [List.lookup_cons] at h ⊢
        cases hk : z == k with
        | true => rw [hk] at h; exact h
        | false => rw [hk] at h; exact lay_mask h2 h
section
variable {Φ : Fm} {fs : FS} {σ : St} {P : Pt} {T : Top0} {n : Nat} {sc : Scope} {cells : List (Str × Nat)} {lam : Bool} {H : Addr → Option AObj} {us ws : List (Option AV)} {x : Str} {v : AV} {p : Pos} {t e i : Expr} {b b' : List Stmt} {Q : AV → St → Prop} {Qs : St → Prop} {K : AFlow → St → Prop}
theorem Ok.nless {ns : List (Str × AV)} (ok : Ok Φ σ P) (h : ∀ {z w}, ns.lookup z = some w → σ.ns.lookup z = some w) : Ok Φ ⟨σ.H, ns⟩ P := by
  refine ⟨⟨ok.m.base, ok.m.al, fun a ob e => ?_, ok.m.gens, ok.m.os⟩, ok.dj⟩
  by_cases hL : a = Φ.env.locals
  · subst hL
    obtain ⟨x, y, o, g, m, hm, q⟩ := ok.m.objs _ _ (map_L (σ := σ))
    rw [map_L (σ := ⟨σ.H, ns⟩)] at e
    exact ⟨x, y, o, g, smj e ▸ ⟨m, hm, fun e => q (h e)⟩⟩
  · exact ok.m.objs a ob (by rw [map_N hL] at e ⊢; exact e)
theorem plc_get (h : plc sc x n = true) (hv : us[n]? = some (some v)) : (lay (locs sc) us).lookup x = some v := lay_get (Bool.and_eq_true_iff.mp (Bool.and_eq_true_iff.mp h).1).1 hv
theorem plc_K {m : Nat} (h : plc sc x n = true) : isK ⟨T, m, sc, cells, lam⟩ x .local = true := by
  obtain ⟨h1, h2⟩ := Bool.and_eq_true_iff.mp h
  exact Bool.and_eq_true_iff.mpr ⟨(Bool.and_eq_true_iff.mp h1).2, h2⟩
theorem w_loc (k : Nat) (h : plc sc x k = true) (hv : us[k]? = some (some v)) (q : Q v (V ⟨T, n, sc, cells, lam⟩ H us)) : We ⟨T, n, sc, cells, lam⟩ (.Name x p) (V ⟨T, n, sc, cells, lam⟩ H us) Q :=
  w_local (plc_K (T := T) (cells := cells) (lam := lam) h) (plc_get h hv) q
theorem set_less (h : plc sc x n = true) (hn : n < us.length) {z : Str} {w : AV} (e : (lay (locs sc) (us.set n (some v))).lookup z = some w) : (gPut x v (lay (locs sc) us)).lookup z = some w := by
  have ha := (Bool.and_eq_true_iff.mp (Bool.and_eq_true_iff.mp h).1).1
  rw [lookup_gPut]
  by_cases hz : z = x
  · rw [if_pos hz]
    rw [hz, lay_get ha (List.getElem?_set_self hn)] at e; exact e
  · rw [if_neg hz]; rw [lay_set hz ha] at e; exact e
theorem lt_of {k : Nat} (h : (us[k]?).isSome = true) : k < us.length := let ⟨_, e⟩ := Option.isSome_iff_exists.mp h; (List.getElem?_eq_some_iff.mp e).1
theorem s_loc (k : Nat) (h : plc sc x k = true) (hk : (us[k]?).isSome = true) (q : Qs (V ⟨T, n, sc, cells, lam⟩ H (us.set k (some v)))) : Ws ⟨T, n, sc, cells, lam⟩ x v (V ⟨T, n, sc, cells, lam⟩ H us) Qs := fun Φ P y K E F ok r kk =>
  s_local (Qs := fun s => s = (V ⟨T, n, sc, cells, lam⟩ H us).put x v) (Bool.and_eq_true_iff.mp (plc_K (T := T) (cells := cells) (lam := lam) h)).1 rfl Φ P y K E F ok r fun P' σ' l ok' z => kk P' _ l (Ok.nless (z ▸ ok') fun e => set_less h (lt_of hk) e) q
noncomputable def Sub1 (ns ns' : List (Str × AV)) : Prop := ∀ {z w}, ns.lookup z = some w → ns'.lookup z = some w
theorem Wa.nless {ns : List (Str × AV)} (h : Wa fs t v ⟨σ.H, ns⟩ Qs) (l : Sub1 ns σ.ns) : Wa fs t v σ Qs := fun Φ P y K E F ok r k => h Φ P y K E F (ok.nless l) r k
theorem Wt.nless {Qb : Bool → St → Prop} {ns : List (Str × AV)} (h : Wt fs t ⟨σ.H, ns⟩ Qb) (l : Sub1 ns σ.ns) : Wt fs t σ Qb := fun Φ P K E F ok k => h Φ P K E F (ok.nless l) k
theorem W1.nless {st : Stmt} (h : W1 fs st σ fun fl s => ∃ ns, Sub1 ns s.ns ∧ K fl ⟨s.H, ns⟩) : W1 fs st σ K := fun Φ P Q E F ff ok k => h Φ P Q E F ff ok fun P' g fl σ' l ok' r ⟨ns, z, q⟩ => k P' g fl _ l (ok'.nless z) r q
theorem st_mono {J J' : St → Prop} (h : ∀ s, J s → J' s) {fl : AFlow} {s : St} (q : stepK J K fl s) : stepK J' (fun fl s => ∃ ns, Sub1 ns s.ns ∧ K fl ⟨s.H, ns⟩) fl s := match fl, q with
  | .next, q => h _ q
  | .cont, q => h _ q
  | .brk, q => ⟨_, fun z => z, q⟩
  | .ret _, q => ⟨_, fun z => z, q⟩
theorem sub1_mask (h : ndk (locs sc) = true) : Sub1 (lay (locs sc) (mask us ws)) (lay (locs sc) ws) := fun e => lay_mask h e
noncomputable def gk (sc : Scope) (x : Str) : Bool := sc.names.lookup x == some .globalImplicit && !badName x && !(x == ("__name__" : Str))
theorem gk_K (h : gk sc x = true) : isK ⟨T, n, sc, cells, lam⟩ x .globalImplicit = true := (Bool.and_eq_true_iff.mp h).1
theorem w_gl {y : Value} (h : gk sc x = true) (hv : T.glob x = some y) (q : Q (.con y) σ) : We ⟨T, n, sc, cells, lam⟩ (.Name x p) σ Q := w_glob (gk_K h) hv q
theorem w_gi {j : Int} {u : Tok} (h : gk sc x = true) (hv : T.glob x = some (.int j u)) (q : Q (.int j) σ) : We ⟨T, n, sc, cells, lam⟩ (.Name x p) σ Q := w_globi (gk_K h) hv q
theorem w_bl {y : Value} (h : gk sc x = true) (hv : T.glob x = none) (hy : bootBuiltins x = some y) (q : Q (.con y) σ) : We ⟨T, n, sc, cells, lam⟩ (.Name x p) σ Q := w_blt (Bool.and_eq_true_iff.mpr ⟨gk_K h, (Bool.and_eq_true_iff.mp h).2⟩) hv hy q
theorem x_for' (hnd : ndk (locs sc) = true) (h : Wi ⟨T, n, sc, cells, lam⟩ t i σ fun vs dom s => ∃ H us, s = V ⟨T, n, sc, cells, lam⟩ H us ∧ ∃ I : Nat → (Addr → Option AObj) → List (Option AV) → Prop, I 0 H us ∧ (∀ i H us, I i H us → ∀ ns, dom ⟨H, ns⟩) ∧
    (∀ i v H us, vs[i]? = some v → I i H us → Wa ⟨T, n, sc, cells, lam⟩ t v (V ⟨T, n, sc, cells, lam⟩ H us) fun s => Wx ⟨T, n, sc, cells, lam⟩ b s (stepK (fun s' => ∃ H' us', s' = V ⟨T, n, sc, cells, lam⟩ H' us' ∧ I (i + 1) H' (mask us us')) K)) ∧
    ∀ H us, I vs.length H us → K .next (V ⟨T, n, sc, cells, lam⟩ H us)) : W1 ⟨T, n, sc, cells, lam⟩ (.For t i b [] p) σ K :=
  W1.nless (x_for ⟨h.1, fun Φ P K' E F ok k => h.2 Φ P K' E F ok fun P' I own S vs dom σ' l ok' fr it s0 zz => k P' I own S vs dom σ' l ok' fr it s0 (by
    obtain ⟨H, us, e, J, j0, jd, js, je⟩ := zz
    refine ⟨fun i s => ∃ us, J i s.H us ∧ Sub1 (lay (locs sc) us) s.ns, ⟨us, e ▸ ⟨j0, fun z => z⟩⟩, fun i s z => ?_, fun i v s hv z => ?_, fun s z => ?_⟩
    · obtain ⟨us, q, _⟩ := z
      exact jd i s.H us q s.ns
    · obtain ⟨us, q, z⟩ := z
      exact fun Φ P y K' E F ok r k => js i v s.H us hv q Φ P y K' E F (ok.nless z) r fun P' σ' l ok' w => k P' σ' l ok' (w.mono fun fl s' w => st_mono (fun s2 q => by obtain ⟨H', us', e, q⟩ := q; exact ⟨mask us us', e ▸ ⟨q, sub1_mask hnd⟩⟩) w)
    · obtain ⟨us, q, z⟩ := z
      exact ⟨_, z, je s.H us q⟩)⟩)
theorem x_while' (m : Nat) (hnd : ndk (locs sc) = true) (I : Nat → (Addr → Option AObj) → List (Option AV) → Prop) (h0 : I m H us)
    (h : ∀ k H us, I k H us → Wt ⟨T, n, sc, cells, lam⟩ t (V ⟨T, n, sc, cells, lam⟩ H us) fun c s => Br c (Wx ⟨T, n, sc, cells, lam⟩ b s (stepK (fun s' => ∃ k' H' us', k' < k ∧ s' = V ⟨T, n, sc, cells, lam⟩ H' us' ∧ I k' H' (mask us us')) K)) (Wx ⟨T, n, sc, cells, lam⟩ b' s K)) :
    W1 ⟨T, n, sc, cells, lam⟩ (.While t b b' p) (V ⟨T, n, sc, cells, lam⟩ H us) K :=
  W1.nless (x_while m (fun k s => ∃ us, I k s.H us ∧ Sub1 (lay (locs sc) us) s.ns) ⟨us, h0, fun z => z⟩ fun k s q => by
    obtain ⟨us, q, z⟩ := q
    exact Wt.nless (ns := lay (locs sc) us) ((h k s.H us q).mono fun c s q => ⟨fun e => (q.1 e).mono fun fl s w => st_mono (fun s2 q => by obtain ⟨k', H', us', hk, e, q⟩ := q; exact ⟨k', hk, mask us us', e ▸ ⟨q, sub1_mask hnd⟩⟩) w, fun e => (q.2 e).mono fun fl s w => ⟨_, fun z => z, w⟩⟩) z)
noncomputable def ent (sc : Scope) (binds : List (Str × AV)) : List (Option AV) := (locs sc).map (List.lookup · binds)
noncomputable def lok (sc : Scope) : Bool := (locs sc).all fun z => sc.names.lookup z == some .local
theorem lay_ent {binds : List (Str × AV)} {z : Str} {w : AV} : ∀ {ks : List Str}, (lay ks (ks.map (List.lookup · binds))).lookup z = some w → z ∈ ks ∧ binds.lookup z = some w
  | [], h => nos h
  | k :: ks, h => by
    cases e : List.lookup k binds with
    | none =>
      have h : (lay (k :: ks) (List.lookup k binds :: ks.map (List.lookup · binds))).lookup z = some w := h
      rw [e] at h
      have := lay_ent (ks := ks) h
      exact ⟨List.mem_cons_of_mem _ this.1, this.2⟩
    | some a =>
      have h : (lay (k :: ks) (List.lookup k binds :: ks.map (List.lookup · binds))).lookup z = some w := h
      rw [e] at h
      have h : List.lookup z ((k, a) :: lay ks (ks.map (List.lookup · binds))) = some w := h
      rw [List.lookup_cons] at h
      cases hk : z == k with
      | true => rw [hk] at h; exact ⟨beq_iff_eq.mp hk ▸ List.mem_cons_self, beq_iff_eq.mp hk ▸ e.trans h⟩
      | false => rw [hk] at h; have := lay_ent (ks := ks) h; exact ⟨List.mem_cons_of_mem _ this.1, this.2⟩
theorem sub1_ent {binds : List (Str × AV)} (hl : lok sc = true) : Sub1 (lay (locs sc) (ent sc binds)) (binds.filter fun p => sc.names.lookup p.1 == some .local) := fun {z w} e => by
  obtain ⟨h1, h2⟩ := lay_ent e
  rw [lookup_filterKey (fun y => sc.names.lookup y == some .local), if_pos (List.all_eq_true.mp hl z h1)]; exact h2
theorem Wx.nless {ss : List Stmt} {ns : List (Str × AV)} (h : Wx fs ss ⟨σ.H, ns⟩ K) (l : Sub1 ns σ.ns) : Wx fs ss σ K := fun Φ P Q E F ff ok k => h Φ P Q E F ff (ok.nless l) k
theorem cells_none : ∀ (names : List (Str × NameKind)) (n : Nat), ((names.filter fun p => p.2 == .cell).map (·.1)).isEmpty = true → cellsFrom n names [] = []
  | [], _, _ => rfl
  | (nm, kd) :: r, n, h => by
    unfold cellsFrom
    by_cases hc : (kd == NameKind.cell) = true
    · rw [List.filter_cons_of_pos (by exact hc)] at h; exact ff h
    · rw [List.filter_cons_of_neg (by exact hc)] at h
      rw [if_neg hc]; exact cells_none r n h
theorem addC_nil {base : Nat} : addC H base [] = H := funext fun a => by unfold addC; split <;> rfl
variable {fi : FI} {binds : List (Str × AV)} {Qb : AV → (Addr → Option AObj) → Prop}
theorem body_0 (hc : (cellNames fi.scope).isEmpty = true) (hl : lok fi.scope = true) (he : ent fi.scope binds = us) (h : Wx ⟨T, n, fi.scope, [], fi.lam⟩ fi.body (V ⟨T, n, fi.scope, [], fi.lam⟩ H us) fun fl s' => ∃ H', SubH H' s'.H ∧ Qb (retOf fl) H') : Body T n fi binds H Qb := fun base hb => by
  rw [cells_none _ _ hc, List.isEmpty_iff.mp hc]
  show Wx _ _ ⟨addC H base [], _⟩ _
  rw [addC_nil]
  exact Wx.nless (σ := ⟨H, _⟩) (he ▸ h) (sub1_ent hl)
theorem body_c {cs : Nat → List (Str × Nat)} (hc : ∀ base, cellsFrom base fi.scope.names [] = cs base) (hl : lok fi.scope = true) (he : ent fi.scope binds = us)
    (h : ∀ base H1, SubH H H1 → (∀ a, base ≤ a → H a = none) → (∀ i x, (cellNames fi.scope)[i]? = some x → H1 (base + i) = some (.cell (binds.lookup x))) → Wx ⟨T, n, fi.scope, cs base, fi.lam⟩ fi.body (V ⟨T, n, fi.scope, cs base, fi.lam⟩ H1 us) fun fl s' => ∃ H', SubH H' s'.H ∧ Qb (retOf fl) H') : Body T n fi binds H Qb := fun base hb => by
  rw [hc]
  refine Wx.nless (σ := ⟨_, _⟩) (he ▸ h base (addC H base ((cellNames fi.scope).map fun x => .cell (binds.lookup x))) (fun a ob e => ?_) hb fun i x e => ?_) (sub1_ent hl)
  · have : a < base := Nat.lt_of_not_le fun z => nos ((hb a z).symm.trans e)
    exact (addC_lt this).trans e
  · rw [addC_ge (Nat.le_add_right _ _), Nat.add_sub_cancel_left, List.getElem?_map, e]; rfl
variable {elt iter : Expr} {sc0 : Scope} {ifs : List Expr} {f : AV → Option AV} {Ql : List AV → St → Prop}
end
end Mine
end
section
namespace Mine
open PySem PySem.W PyProof.Rows PySem.Calls PySem.SeqAt
section
variable {T : Top0} {n : Nat} {sc sc0 : Scope} {cells : List (Str × Nat)} {lam : Bool} {H : Addr → Option AObj} {us : List (Option AV)} {x z : Str} {v : AV} {p : Pos} {elt iter : Expr} {ifs : List Expr} {σ : St} {Ql : List AV → St → Prop} {α : Type}
theorem comp2 {cs : Nat → List (Str × Nat)} (xs : List α) (g : α → AV) (f : α → Option AV) (ys : List AV) (hy : xs.filterMap f = ys) (h1 : goodComp sc cells = true) (h2 : locs (relabel' sc sc0) = [z, x]) (h3 : plc (relabel' sc sc0) x 1 = true) (h4 : (cellNames sc).isEmpty = true) (h5 : ∀ base, cellsFrom base sc.names (closC cells sc.names []) = cs base)
    (h : Wi ⟨T, n, sc0, cells, lam⟩ (.Name x p) iter σ fun vs dom s => vs = xs.map g ∧ (∀ ns, dom ⟨s.H, ns⟩) ∧ xs.length < lim ∧ (∀ base v, v ∈ xs → Wif ⟨T, n, relabel' sc sc0, cs base, lam⟩ ifs (V ⟨T, n, relabel' sc sc0, cs base, lam⟩ s.H [none, some (g v)]) fun c s' => s' = V ⟨T, n, relabel' sc sc0, cs base, lam⟩ s.H [none, some (g v)] ∧ Br c (We ⟨T, n, relabel' sc sc0, cs base, lam⟩ elt s' fun w s2 => s2 = s' ∧ f v = some w) (f v = none)) ∧ Ql ys s) :
    Wco ⟨T, n, sc0, cells, lam⟩ elt [⟨.Name x p, iter, ifs, 0⟩] sc σ Ql := c_comp rfl h1 ⟨h.1, fun Φ P K E F ok k => h.2 Φ P K E F ok fun P' I own S vs dom s l ok' fr it s0 zz => k P' I own S vs dom s l ok' fr it s0 fun base hbase => by
  obtain ⟨hvs, hd, hz, hb, q⟩ := zz
  subst hvs
  unfold compFs
  rw [List.isEmpty_iff.mp h4, h5]
  show Wcl _ _ _ _ _ _ _ ⟨addC s.H base [], []⟩ _
  rw [addC_nil]
  refine ⟨fun i acc s' => acc = (xs.take i).filterMap f ∧ ∃ u, s' = V ⟨T, n, relabel' sc sc0, cs base, lam⟩ s.H [none, u], ⟨rfl, none, ?_⟩, fun i acc s' z => by obtain ⟨_, u, e⟩ := z; exact e ▸ hd _, fun i v acc s' hv0 z => ?_, fun acc s' z => ?_⟩
  · show _ = (⟨s.H, lay (locs (relabel' sc sc0)) [none, none]⟩ : St); rw [h2]; rfl
  · obtain ⟨ha, u, e⟩ := z
    rw [List.getElem?_map] at hv0
    obtain ⟨v', hv, rfl⟩ := Option.map_eq_some_iff.mp hv0
    have hlt := (List.getElem?_eq_some_iff.mp hv).1
    have hs : (xs.take (i + 1)).filterMap f = (xs.take i).filterMap f ++ (f v').toList := by
      rw [List.take_succ, hv, List.filterMap_append]
      cases e : f v' with
      | none => rw [Option.toList_some, List.filterMap_cons_none e]; rfl
      | some w => rw [Option.toList_some, List.filterMap_cons_some e]; rfl
    subst e
    refine a_name (s_loc (us := [none, u]) 1 h3 rfl ?_)
    refine fun Φ P K E F ok k => hb base v' (List.mem_of_getElem? hv) Φ P K E F ok fun P' c s2 l ok2 z => k P' c s2 l ok2 ⟨fun hc => ?_, fun hc => ?_⟩
    · refine em_last ((z.2.1 hc).mono fun w s3 y => ⟨?_, ?_, some (g v'), y.1.trans z.1⟩)
      · rw [ha]
        exact Nat.lt_of_le_of_lt (Nat.le_trans (List.length_filterMap_le ..) (List.length_take_le' ..)) hz
      · rw [hs, ha, y.2]; rfl
    · exact ⟨by rw [hs, ha, z.2.2 hc]; exact (List.append_nil _).symm, some (g v'), z.1⟩
  · obtain ⟨ha, u, e⟩ := z
    exact ⟨s.H, e ▸ fun _ _ z => z, by rw [ha, List.length_map, List.take_length, hy]; exact q⟩⟩
end
end Mine
end
section
namespace Mine
open PySem PySem.W PyProof.Rows PySem.Calls PySem.SeqAt
section
variable {σ : St} {a b : AV} {vs : List AV} {e : Value → Bool} {e' : AV → Bool}
noncomputable def Eqs (a : AV) (vs : List AV) (e : Value → Bool) (e' : AV → Bool) : Prop := ∀ P A x y v, v ∈ vs → VR P a x → VR P v y → EqAt A P.s y x (e y) ∧ e y = e' v
theorem eqs_all {P : Pt} {x : Value} {A : Around} (h : Eqs a vs e e') (ra : VR P a x) {xs : List Value} (rs : VRs P vs xs) : (∀ y, y ∈ xs → EqAt A P.s y x (e y)) ∧ xs.any e = vs.any e' := by
  induction vs generalizing xs with
  | nil => obtain rfl := (show xs = [] from rs.inv); exact ⟨fun y hy => (List.not_mem_nil hy).elim, rfl⟩
  | cons v vs ih =>
    obtain ⟨y, ys, rfl, r1, r2⟩ := rs.inv
    obtain ⟨i1, i2⟩ := ih (fun P A x y v hv => h P A x y v (List.mem_cons_of_mem _ hv)) r2
    obtain ⟨h1, h2⟩ := h P A x y v List.mem_cons_self ra r1
    refine ⟨fun z hz => ?_, by rw [List.any_cons, List.any_cons, h2, i2]⟩
    rcases List.mem_cons.mp hz with q | q
    · rw [q]; exact h1
    · exact i1 z q
theorem n_li (h : Eqs a vs e e') (hb : LI σ b vs) : Cmp .In a b σ (vs.any e') := fun Φ P x y _ ok ra rb => hb.e ok rb fun l its hl rs => .same fun Q E k => by
  obtain ⟨h1, h2⟩ := eqs_all (A := Φ.A.in1) h ra rs
  refine in_listAt e hl (fun y hy => h1 y (Array.mem_toList_iff.mpr hy)) ?_
  rw [← Array.any_toList, h2]; exact k _ fun _ _ => .bool _
theorem n_liN (h : Eqs a vs e e') (hb : LI σ b vs) : Cmp .NotIn a b σ (!vs.any e') := fun Φ P x y _ ok ra rb => hb.e ok rb fun l its hl rs => .same fun Q E k => by
  obtain ⟨h1, h2⟩ := eqs_all (A := Φ.A.in1) h ra rs
  refine notIn_listAt e hl (fun y hy => h1 y (Array.mem_toList_iff.mpr hy)) ?_
  rw [← Array.any_toList, h2]; exact k _ fun _ _ => .bool _
noncomputable def sIs (s : Str) : Value → Bool
  | .str t _ => t == s
  | _ => false
theorem eqs_str {s : Str} {ss : List Str} : Eqs (.str s) (ss.map .str) (sIs s) (fun v => match v with | .str t => t == s | _ => false) := fun P A x y v hv ra rv => by
  obtain ⟨t, ht, rfl⟩ := List.mem_map.mp hv
  obtain ⟨u, rfl⟩ := ra.inv
  obtain ⟨w, rfl⟩ := rv.inv
  exact ⟨EqAt.str_str _ _ _ _, rfl⟩
theorem any_str {s : Str} {ss : List Str} : (ss.map AV.str).any (fun v => match v with | .str t => t == s | _ => false) = ss.contains s := by
  rw [List.any_map, List.contains_eq_any_beq]
  congr 1
  funext t
  exact Bool.beq_comm
theorem n_liS {s : Str} {ss : List Str} (hb : LI σ b (ss.map .str)) : Cmp .In (.str s) b σ (ss.contains s) := any_str ▸ n_li eqs_str hb
noncomputable def iIs (i : Int) : Value → Bool
  | .int j _ => j == i
  | _ => false
theorem eqs_int {i : Int} {is : List Int} : Eqs (.int i) (is.map .int) (iIs i) (fun v => match v with | .int j => j == i | _ => false) := fun P A x y v hv ra rv => by
  obtain ⟨t, ht, rfl⟩ := List.mem_map.mp hv
  obtain ⟨u, rfl⟩ := ra.inv
  obtain ⟨w, rfl⟩ := rv.inv
  exact ⟨EqAt.int_int _ _ _ _, rfl⟩
theorem any_int {i : Int} {is : List Int} : (is.map AV.int).any (fun v => match v with | .int j => j == i | _ => false) = is.contains i := by
  rw [List.any_map, List.contains_eq_any_beq]
  congr 1
  funext t
  exact Bool.beq_comm
theorem n_liI {i : Int} {is : List Int} (hb : LI σ b (is.map .int)) : Cmp .In (.int i) b σ (is.contains i) := any_int ▸ n_li eqs_int hb
noncomputable def bIs (c : Bool) : Value → Bool
  | .bool d => d == c
  | _ => false
theorem eqs_bool {c : Bool} {bs : List Bool} : Eqs (.bool c) (bs.map .bool) (bIs c) (fun v => match v with | .bool d => d == c | _ => false) := fun P A x y v hv ra rv => by
  obtain ⟨t, ht, rfl⟩ := List.mem_map.mp hv
  obtain rfl := (show x = .bool c from ra.inv)
  obtain rfl := (show y = .bool t from rv.inv)
  exact ⟨EqAt.bool_bool _ _, rfl⟩
theorem any_bool {c : Bool} {bs : List Bool} : (bs.map AV.bool).any (fun v => match v with | .bool d => d == c | _ => false) = bs.contains c := by
  rw [List.any_map, List.contains_eq_any_beq]
  congr 1
  funext t
  exact Bool.beq_comm
theorem n_liBN {c : Bool} {bs : List Bool} (hb : LI σ b (bs.map .bool)) : Cmp .NotIn (.bool c) b σ (!bs.contains c) := any_bool ▸ n_liN eqs_bool hb
end
end Mine
end
section
namespace Mine
open PySem PySem.W PyProof.Rows PySem.Calls PySem.SeqAt
section
variable {T : Top0} {n : Nat} {sc sc0 : Scope} {cells : List (Str × Nat)} {lam : Bool} {elt it1 it2 t1 t2 : Expr} {σ : St} {Ql : List AV → St → Prop} {β : Type}
theorem compM {α : Type} {x z : Str} {p : Pos} {iter : Expr} {cs : Nat → List (Str × Nat)} (xs : List α) (g : α → AV) (f : α → AV) (ys : List AV) (hy : xs.map f = ys) (h1 : goodComp sc cells = true) (h2 : locs (relabel' sc sc0) = [z, x]) (h3 : plc (relabel' sc sc0) x 1 = true) (h4 : (cellNames sc).isEmpty = true)
    (h5 : ∀ base, cellsFrom base sc.names (closC cells sc.names []) = cs base) (hz : xs.length < lim)
    (h : Wi ⟨T, n, sc0, cells, lam⟩ (.Name x p) iter σ fun vs dom s => vs = xs.map g ∧ (∀ ns, dom ⟨s.H, ns⟩) ∧ (∀ base v, v ∈ xs → We ⟨T, n, relabel' sc sc0, cs base, lam⟩ elt (V ⟨T, n, relabel' sc sc0, cs base, lam⟩ s.H [none, some (g v)]) fun w s2 => s2 = V ⟨T, n, relabel' sc sc0, cs base, lam⟩ s.H [none, some (g v)] ∧ w = f v) ∧ Ql ys s) :
    Wco ⟨T, n, sc0, cells, lam⟩ elt [⟨.Name x p, iter, [], 0⟩] sc σ Ql := comp2 xs g (fun v => some (f v)) ys ((congrFun List.filterMap_eq_map' xs).trans hy) h1 h2 h3 h4 h5 ⟨h.1, fun Φ P K E F ok k => h.2 Φ P K E F ok fun P' I own S vs dom s l ok' fr it s0 z => k P' I own S vs dom s l ok' fr it s0
    ⟨z.1, z.2.1, hz, fun base v hv => c_if0 ⟨rfl, fun _ => (z.2.2.1 base v hv).mono fun w s2 y => ⟨y.1, congrArg some y.2.symm⟩, nofun⟩, z.2.2.2⟩⟩
end
end Mine
end
section
namespace Mine
open PySem PySem.W PyProof.Rows
section
variable {Φ : Fm} {fs : FS} {σ : St} {v : AV} {a b ov : AV} {op : Operator} {cp : CmpOp} {c : Bool} {m : Str} {Qc : Bool → St → Prop} {l : List AV}
theorem e_bop {R : AV → Prop} (h : Bop op a b σ v) (q : R v) : ∃ v, Bop op a b σ v ∧ R v := ⟨v, h, q⟩
theorem e_cmp {R : Bool → Prop} (h : Cmp cp a b σ c) (q : R c) : ∃ c, Cmp cp a b σ c ∧ R c := ⟨c, h, q⟩
theorem e_tru {R : Bool → Prop} (h : Tru v σ c) (q : R c) : ∃ c, Tru v σ c ∧ R c := ⟨c, h, q⟩
theorem e_sl {lo hi : Option Int} {R : AV → Prop} (h : Sl a lo hi σ v) (q : R v) : ∃ v, Sl a lo hi σ v ∧ R v := ⟨v, h, q⟩
theorem e_mg {id : String} {R : String → Prop} (h : Mg ov m id σ) (q : R id) : ∃ id, Mg ov m id σ ∧ R id := ⟨id, h, q⟩
theorem e_kp {R : Prop} (h : Kp fs v) (q : R) : Kp fs v ∧ R := ⟨h, q⟩
theorem e_int {j : Int} {R : Int → Prop} (q : R j) : ∃ i, AV.int j = .int i ∧ R i := ⟨j, rfl, q⟩
theorem e_str {y : Str} {R : Str → Prop} (q : R y) : ∃ i, AV.str y = .str i ∧ R i := ⟨y, rfl, q⟩
theorem e_sr {t : Expr} {vs : List AV} {dom : St → Prop} {R : List AV → (St → Prop) → Prop} (h : Sr t v σ vs dom) (q : R vs dom) : ∃ vs dom, R vs dom ∧ ∀ Φ P x (K : Value → Shared → Prop) E, CxOk Φ.C → Ok Φ σ P → VR P v x →
    (∀ P' I own S, Le P P' → Ok (Φ.hide own) σ P' → Fre Φ own → Itr P' t I vs dom S → S 0 own → K (.ref I) P'.s) → wpAny Φ.M Φ.A (pyIter x) K E P.s := ⟨vs, dom, q, h⟩
end
section
variable {σ : St} {a b v : AV} {c : Bool} {l d : Addr} {vs ws : List AV} {i j : Int} {k : Nat} {s t : Str} {R : AV → Prop} {Rc : Bool → Prop}
theorem f_append (h : σ.H l = some (.list vs)) (q : R (.bm "list.append" l)) : ∃ v, At (.con (.ref l)) "append" σ v ∧ R v := ⟨_, g_append h, q⟩
theorem f_mappend {R : String → Prop} (h : σ.H l = some (.list vs)) (q : R "list.append") : ∃ id, Mg (.con (.ref l)) "append" id σ ∧ R id := ⟨_, mg_append h, q⟩
theorem f_mclear {R : String → Prop} (h : σ.H l = some (.list vs)) (q : R "list.clear") : ∃ id, Mg (.con (.ref l)) "clear" id σ ∧ R id := ⟨_, mg_clear h, q⟩
theorem f_mget {es : List (Int × AV)} {ep : Nat} {R : String → Prop} (h : σ.H l = some (.dictI es ep)) (q : R "dict.get") : ∃ id, Mg (.con (.ref l)) "get" id σ ∧ R id := ⟨_, mg_get h, q⟩
theorem f_msadd {es : List Int} {R : String → Prop} (h : σ.H l = some (.set es)) (q : R "set.add") : ∃ id, Mg (.con (.ref l)) "add" id σ ∧ R id := ⟨_, mg_add h, q⟩
theorem f_next {m : Nat} (h : σ.H l = some (.iter d m)) (q : R (.bm "list_iterator.__next__" l)) : ∃ v, At (.con (.ref l)) "__next__" σ v ∧ R v := ⟨_, g_next h, q⟩
theorem f_string {sp : List (Nat × Nat)} (q : R (.str s)) : ∃ v, At (.mat s sp) "string" σ v ∧ R v := ⟨_, g_string, q⟩
theorem f_is (h : isNoneV a = some c) (q : Rc c) : ∃ c, Cmp .Is a .none σ c ∧ Rc c := ⟨_, i_is h, q⟩
theorem f_isnt (h : isNoneV a = some c) (q : Rc (!c)) : ∃ c, Cmp .IsNot a .none σ c ∧ Rc c := ⟨_, i_isnt h, q⟩
theorem f_eqI (q : Rc (decide (i = j))) : ∃ c, Cmp .Eq (.int i) (.int j) σ c ∧ Rc c := ⟨_, e_eq v_int, q⟩
theorem f_neI (q : Rc (!decide (i = j))) : ∃ c, Cmp .NotEq (.int i) (.int j) σ c ∧ Rc c := ⟨_, e_ne v_int, q⟩
theorem f_eqS (q : Rc (decide (s = t))) : ∃ c, Cmp .Eq (.str s) (.str t) σ c ∧ Rc c := ⟨_, e_eq v_str, q⟩
theorem f_neS (q : Rc (!decide (s = t))) : ∃ c, Cmp .NotEq (.str s) (.str t) σ c ∧ Rc c := ⟨_, e_ne v_str, q⟩
theorem f_modI (h : 0 < j) (q : R (.int (i.fmod j))) : ∃ v, Bop .Mod (.int i) (.int j) σ v ∧ R v := ⟨_, o_modI h, q⟩
theorem f_addL (h1 : LI σ a vs) (h2 : LI σ b ws) (h : vs.length + ws.length ≤ lim) (q : R (.lst (vs ++ ws))) : ∃ v, Bop .Add a b σ v ∧ R v := ⟨_, o_addL h1 h2 h, q⟩
theorem f_list (h : LI σ a vs) (h2 : seqIdx i vs.length = some k) (e : vs[k]? = some v) (q : R v) : ∃ v, Su a (.int i) σ v ∧ R v := ⟨_, u_list h h2 e, q⟩
theorem f_dict {es : List (Int × AV)} {ep : Nat} (h : σ.H l = some (.dictI es ep)) (e : es.lookup i = some v) (q : R v) : ∃ v, Su (.con (.ref l)) (.int i) σ v ∧ R v := ⟨_, u_dict h e, q⟩
theorem f_tru (h : LI σ a vs) (hl : vs.length ≤ lim) (q : Rc (!vs.isEmpty)) : ∃ c, Tru a σ c ∧ Rc c := ⟨_, tr_list h hl, q⟩
theorem f_truS (hl : s.length ≤ lim) (q : Rc (!(s.length == 0))) : ∃ c, Tru (.str s) σ c ∧ Rc c := ⟨_, tr_str hl, q⟩
end
noncomputable abbrev Hp := Addr → Option AObj
noncomputable abbrev rf (a : Addr) : AV := .con (.ref a)
structure PS where
  nodes : List Int
  np : Int → Int
  su : Int → List Int
structure Lay where
  d : Addr
  D : Addr
  ad : Int → Addr
  sl : Int → Addr
noncomputable def attrL (D : Addr) (rv : AV) (p f : Int) : List (Str × AV) := [("_node2info", rf D), ("_ready_nodes", rv), ("_npassedout", .int p), ("_nfinished", .int f)]
theorem lk_hd {α : Type} {x : Str} {v : α} {r : List (Str × α)} : List.lookup x ((x, v) :: r) = some v := by rw [List.lookup_cons, beq_self_eq_true]
theorem lk_tl {α : Type} {x y : Str} {v w : α} {r : List (Str × α)} (h : (x == y) = false) (e : List.lookup x r = some v) : List.lookup x ((y, w) :: r) = some v := by rw [List.lookup_cons, h]; exact e
section
variable {D i d : Addr} {rv v : AV} {p f j : Int} {σ : St} {Q : St → Prop}
theorem at_info : (attrL D rv p f).lookup ("_node2info" : Str) = some (rf D) := lk_hd
theorem at_ready : (attrL D rv p f).lookup ("_ready_nodes" : Str) = some rv := lk_tl (by decide +kernel) lk_hd
theorem at_pass : (attrL D rv p f).lookup ("_npassedout" : Str) = some (.int p) := lk_tl (by decide +kernel) (lk_tl (by decide +kernel) lk_hd)
theorem at_fin : (attrL D rv p f).lookup ("_nfinished" : Str) = some (.int f) := lk_tl (by decide +kernel) (lk_tl (by decide +kernel) (lk_tl (by decide +kernel) lk_hd))
theorem at_keys : ((attrL D rv p f).all fun p => tsAttrs.contains p.1) = true := by
  show (([("_node2info" : Str), "_ready_nodes", "_npassedout", "_nfinished"] : List Str).all (fun x => tsAttrs.contains x)) = true
  decide +kernel
theorem gp_hd {α : Type} {x : Str} {v w : α} {r : List (Str × α)} : gPut x v ((x, w) :: r) = (x, v) :: r := if_pos rfl
theorem gp_tl {α : Type} {x y : Str} {v w : α} {r r' : List (Str × α)} (h : (x == y) = false) (e : gPut x v r = r') : gPut x v ((y, w) :: r) = (y, w) :: r' := by
  unfold gPut
  rw [if_neg fun z => beq_eq_false_iff_ne.mp h z.symm, e]
theorem put_ready : gPut ("_ready_nodes" : Str) v (attrL D rv p f) = attrL D v p f := gp_tl (by decide +kernel) gp_hd
theorem put_pass : gPut ("_npassedout" : Str) (.int j) (attrL D rv p f) = attrL D rv j f := gp_tl (by decide +kernel) (gp_tl (by decide +kernel) gp_hd)
theorem put_fin : gPut ("_nfinished" : Str) (.int j) (attrL D rv p f) = attrL D rv p j := gp_tl (by decide +kernel) (gp_tl (by decide +kernel) (gp_tl (by decide +kernel) gp_hd))
section
variable (h1 : σ.H i = some (.inst 234 d)) (h2 : σ.H d = some (.attrs (attrL D rv p f)))
include h1 h2
theorem g_info : At (rf i) "_node2info" σ (rf D) := g_attr h1 h2 (by decide +kernel) at_info rfl
theorem g_ready (hp : plainAV rv = true) : At (rf i) "_ready_nodes" σ rv := g_attr h1 h2 (by decide +kernel) at_ready hp
theorem g_pass : At (rf i) "_npassedout" σ (.int p) := g_attr h1 h2 (by decide +kernel) at_pass rfl
theorem g_fin : At (rf i) "_nfinished" σ (.int f) := g_attr h1 h2 (by decide +kernel) at_fin rfl
theorem p_ready (q : Q (σ.set d (.attrs (attrL D v p f)))) : Sa (rf i) "_ready_nodes" v σ Q := p_attr h1 h2 (by decide +kernel) (show 4 ≤ 100 by decide) (by rw [put_ready]; exact q)
theorem p_pass (q : Q (σ.set d (.attrs (attrL D rv j f)))) : Sa (rf i) "_npassedout" (.int j) σ Q := p_attr h1 h2 (by decide +kernel) (show 4 ≤ 100 by decide) (by rw [put_pass]; exact q)
theorem p_fin (q : Q (σ.set d (.attrs (attrL D rv p j)))) : Sa (rf i) "_nfinished" (.int j) σ Q := p_attr h1 h2 (by decide +kernel) (show 4 ≤ 100 by decide) (by rw [put_fin]; exact q)
theorem f_info {R : AV → Prop} (q : R (rf D)) : ∃ v, At (rf i) "_node2info" σ v ∧ R v := ⟨_, g_info h1 h2, q⟩
theorem f_ready {R : AV → Prop} (hp : plainAV rv = true) (q : R rv) : ∃ v, At (rf i) "_ready_nodes" σ v ∧ R v := ⟨_, g_ready h1 h2 hp, q⟩
theorem f_pass {R : AV → Prop} (q : R (.int p)) : ∃ v, At (rf i) "_npassedout" σ v ∧ R v := ⟨_, g_pass h1 h2, q⟩
theorem f_fin {R : AV → Prop} (q : R (.int f)) : ∃ v, At (rf i) "_nfinished" σ v ∧ R v := ⟨_, g_fin h1 h2, q⟩
theorem f_passI {R : Int → Prop} (q : R p) : ∃ j, At (rf i) "_npassedout" σ (.int j) ∧ R j := ⟨_, g_pass h1 h2, q⟩
theorem f_finI {R : Int → Prop} (q : R f) : ∃ j, At (rf i) "_nfinished" σ (.int j) ∧ R j := ⟨_, g_fin h1 h2, q⟩
theorem f_inst {R : Addr → Prop} (q : R i) : ∃ j, AV.con (.ref i) = .con (.ref j) ∧ Inst σ j ∧ R j := ⟨i, rfl, ⟨d, _, h1, h2, at_keys⟩, q⟩
theorem is_inst : Inst σ i := ⟨d, _, h1, h2, at_keys⟩
end
theorem p_i1 (h1 : σ.H i = some (.inst 234 d)) (h2 : σ.H d = some (.attrs [])) (q : Q (σ.set d (.attrs [("_node2info", v)]))) : Sa (rf i) "_node2info" v σ Q := p_attr h1 h2 (by decide +kernel) (show 0 ≤ 100 by decide) q
theorem p_i2 {u : AV} (h1 : σ.H i = some (.inst 234 d)) (h2 : σ.H d = some (.attrs [("_node2info", u)])) (q : Q (σ.set d (.attrs [("_node2info", u), ("_ready_nodes", v)]))) : Sa (rf i) "_ready_nodes" v σ Q :=
  p_attr h1 h2 (by decide +kernel) (show 1 ≤ 100 by decide) (by rw [show gPut ("_ready_nodes" : Str) v [(("_node2info" : Str), u)] = [(("_node2info" : Str), u), ("_ready_nodes", v)] from gp_tl (by decide +kernel) rfl]; exact q)
theorem p_i3 {u w : AV} (h1 : σ.H i = some (.inst 234 d)) (h2 : σ.H d = some (.attrs [("_node2info", u), ("_ready_nodes", w)])) (q : Q (σ.set d (.attrs [("_node2info", u), ("_ready_nodes", w), ("_npassedout", v)]))) : Sa (rf i) "_npassedout" v σ Q :=
  p_attr h1 h2 (by decide +kernel) (show 2 ≤ 100 by decide) (by rw [show gPut ("_npassedout" : Str) v [(("_node2info" : Str), u), ("_ready_nodes", w)] = [(("_node2info" : Str), u), ("_ready_nodes", w), ("_npassedout", v)] from gp_tl (by decide +kernel) (gp_tl (by decide +kernel) rfl)]; exact q)
theorem p_i4 {w : AV} (h1 : σ.H i = some (.inst 234 d)) (h2 : σ.H d = some (.attrs [("_node2info", rf D), ("_ready_nodes", w), ("_npassedout", .int p)])) (q : Q (σ.set d (.attrs (attrL D w p j)))) : Sa (rf i) "_nfinished" (.int j) σ Q :=
  p_attr h1 h2 (by decide +kernel) (show 3 ≤ 100 by decide) (by rw [show gPut ("_nfinished" : Str) (.int j) [(("_node2info" : Str), rf D), ("_ready_nodes", w), ("_npassedout", .int p)] = attrL D w p j from gp_tl (by decide +kernel) (gp_tl (by decide +kernel) (gp_tl (by decide +kernel) rfl))]; exact q)
end
theorem mo_add : methOf "add" = some 184 := by decide +kernel
theorem mo_prepare : methOf "prepare" = some 189 := by decide +kernel
theorem mo_get_ready : methOf "get_ready" = some 196 := by decide +kernel
theorem mo_is_active : methOf "is_active" = some 203 := by decide +kernel
theorem mo_done : methOf "done" = some 217 := by decide +kernel
theorem mo__find_cycle : methOf "_find_cycle" = some 224 := by decide +kernel
theorem mo__get_nodeinfo : methOf "_get_nodeinfo" = some 177 := by decide +kernel
theorem sl_node : slotNo "node" = some 0 := by decide +kernel
theorem sl_np : slotNo "npredecessors" = some 1 := by decide +kernel
theorem sl_su : slotNo "successors" = some 2 := by decide +kernel
noncomputable def ivs (l : List Int) : List AV := l.map .int
noncomputable def slotL (su : Addr) (np k : Int) : List (Option AV) := [some (.int k), some (.int np), some (rf su)]
noncomputable def n2i (L : Lay) (S : PS) : List (Int × AV) := S.nodes.map fun k => (k, rf (L.ad k))
section
variable {i : Addr} {su : Addr} {np k j : Int} {σ : St} {Q : St → Prop} (h : σ.H i = some (.slots 137 (slotL su np k)))
include h
theorem g_node : At (rf i) "node" σ (.int k) := g_slot h sl_node rfl rfl
theorem g_np : At (rf i) "npredecessors" σ (.int np) := g_slot h sl_np rfl rfl
theorem g_su : At (rf i) "successors" σ (rf su) := g_slot h sl_su rfl rfl
theorem f_node {R : AV → Prop} (q : R (.int k)) : ∃ v, At (rf i) "node" σ v ∧ R v := ⟨_, g_node h, q⟩
theorem f_np {R : AV → Prop} (q : R (.int np)) : ∃ v, At (rf i) "npredecessors" σ v ∧ R v := ⟨_, g_np h, q⟩
theorem f_npI {R : Int → Prop} (q : R np) : ∃ j, At (rf i) "npredecessors" σ (.int j) ∧ R j := ⟨_, g_np h, q⟩
theorem f_su {R : AV → Prop} (q : R (rf su)) : ∃ v, At (rf i) "successors" σ v ∧ R v := ⟨_, g_su h, q⟩
theorem p_np (q : Q (σ.set i (.slots 137 (slotL su j k)))) : Sa (rf i) "npredecessors" (.int j) σ Q := p_slot h sl_np q
end
theorem kp_blt {fs : FS} {id : String} : Kp fs (.con (.builtin id)) := kp_prim fun _ z => nomatch z
theorem kp_typ {fs : FS} {id : String} : Kp fs (.con (.type id)) := kp_prim fun _ z => nomatch z
theorem fc_V {T : Top0} {n : Nat} {sc : Scope} {cells : List (Str × Nat)} {lam : Bool} {H : Hp} {us : List (Option AV)} {a : Addr} {fi : FI} {vs : List AV} {binds : List (Str × AV)} {Q : AV → St → Prop} (hl : T.lib a = some fi) (hb : abind fi vs = some binds)
    (h : Body T n fi binds H fun v H' => Q v (V ⟨T, n + 1, sc, cells, lam⟩ H' us)) : Fc ⟨T, n + 1, sc, cells, lam⟩ a vs (V ⟨T, n + 1, sc, cells, lam⟩ H us) Q := fc_lib rfl hl hb h
theorem ac_V {T : Top0} {n : Nat} {sc : Scope} {cells : List (Str × Nat)} {lam : Bool} {H : Hp} {us : List (Option AV)} {a : Addr} {fi : FI} {vs : List AV} {binds : List (Str × AV)} {Q : AV → St → Prop} (hl : T.lib a = some fi) (hb : abind fi vs = some binds)
    (h : Body T n fi binds H fun v H' => Q v (V ⟨T, n + 1, sc, cells, lam⟩ H' us)) : Ac ⟨T, n + 1, sc, cells, lam⟩ (.con (.ref a)) vs (V ⟨T, n + 1, sc, cells, lam⟩ H us) Q := ac_lib rfl hl hb h
section
variable {fs : FS} {H : Addr → Option AObj} {us : List (Option AV)} {D i d l : Addr} {rv u v w : AV} {p f j k np : Int} {su : Addr} {vs : List AV} {Q : St → Prop} {Qv : AV → St → Prop} {es : List (Int × AV)} {ep m : Nat} {s : Str}
theorem v_i1 (h1 : H i = some (.inst 234 d)) (h2 : H d = some (.attrs [])) (q : Q (V fs (upd H d (.attrs [("_node2info", v)])) us)) : Sa (rf i) "_node2info" v (V fs H us) Q := p_i1 h1 h2 q
theorem v_i2 (h1 : H i = some (.inst 234 d)) (h2 : H d = some (.attrs [("_node2info", u)])) (q : Q (V fs (upd H d (.attrs [("_node2info", u), ("_ready_nodes", v)])) us)) : Sa (rf i) "_ready_nodes" v (V fs H us) Q := p_i2 h1 h2 q
theorem v_i3 (h1 : H i = some (.inst 234 d)) (h2 : H d = some (.attrs [("_node2info", u), ("_ready_nodes", w)])) (q : Q (V fs (upd H d (.attrs [("_node2info", u), ("_ready_nodes", w), ("_npassedout", v)])) us)) : Sa (rf i) "_npassedout" v (V fs H us) Q := p_i3 h1 h2 q
theorem v_i4 (h1 : H i = some (.inst 234 d)) (h2 : H d = some (.attrs [("_node2info", rf D), ("_ready_nodes", w), ("_npassedout", .int p)])) (q : Q (V fs (upd H d (.attrs (attrL D w p j))) us)) : Sa (rf i) "_nfinished" (.int j) (V fs H us) Q := p_i4 h1 h2 q
theorem v_ready (h1 : H i = some (.inst 234 d)) (h2 : H d = some (.attrs (attrL D rv p f))) (q : Q (V fs (upd H d (.attrs (attrL D v p f))) us)) : Sa (rf i) "_ready_nodes" v (V fs H us) Q := p_ready h1 h2 q
theorem v_pass (h1 : H i = some (.inst 234 d)) (h2 : H d = some (.attrs (attrL D rv p f))) (q : Q (V fs (upd H d (.attrs (attrL D rv j f))) us)) : Sa (rf i) "_npassedout" (.int j) (V fs H us) Q := p_pass h1 h2 q
theorem v_fin (h1 : H i = some (.inst 234 d)) (h2 : H d = some (.attrs (attrL D rv p f))) (q : Q (V fs (upd H d (.attrs (attrL D rv p j))) us)) : Sa (rf i) "_nfinished" (.int j) (V fs H us) Q := p_fin h1 h2 q
theorem v_np (h : H i = some (.slots 137 (slotL su np k))) (q : Q (V fs (upd H i (.slots 137 (slotL su j k))) us)) : Sa (rf i) "npredecessors" (.int j) (V fs H us) Q := p_np h q
theorem v_s0 (h : H i = some (.slots 137 [])) (q : Q (V fs (upd H i (.slots 137 [some v])) us)) : Sa (rf i) "node" v (V fs H us) Q := p_slot h sl_node q
theorem v_s1 (h : H i = some (.slots 137 [some u])) (q : Q (V fs (upd H i (.slots 137 [some u, some v])) us)) : Sa (rf i) "npredecessors" v (V fs H us) Q := p_slot h sl_np q
theorem v_s2 (h : H i = some (.slots 137 [some u, some w])) (q : Q (V fs (upd H i (.slots 137 [some u, some w, some v])) us)) : Sa (rf i) "successors" v (V fs H us) Q := p_slot h sl_su q
theorem v_append (h : H l = some (.list vs)) (hl : vs.length < lim) (q : Qv .none (V fs (upd H l (.list (vs ++ [v]))) us)) : Ac fs (.con (.builtin "list.append")) [rf l, v] (V fs H us) Qv := m_append h hl q
theorem v_bapp (h : H l = some (.list vs)) (hl : vs.length < lim) (q : Qv .none (V fs (upd H l (.list (vs ++ [v]))) us)) : Ac fs (.bm "list.append" l) [v] (V fs H us) Qv := ca_append h hl q
theorem v_clear (h : H l = some (.list vs)) (hl : vs.length ≤ lim) (q : Qv .none (V fs (upd H l (.list [])) us)) : Ac fs (.con (.builtin "list.clear")) [rf l] (V fs H us) Qv := m_clear h hl q
theorem v_add {es : List Int} (h : H l = some (.set es)) (hl : es.length < 1000) (q : Qv .none (V fs (upd H l (.set (if es.contains j then es else j :: es))) us)) : Ac fs (.con (.builtin "set.add")) [rf l, .int j] (V fs H us) Qv := m_add h hl q
theorem v_dict (ho : H l = some (.dictI es ep)) (h : es.length < lim) (q : Q (V fs (upd H l (.dictI (gPut j v es) (if es.any (·.1 == j) then ep else ep + 1))) us)) : Si (rf l) (.int j) v (V fs H us) Q := p_dict ho h q
theorem v_dict0 {pos : Pos} (q : ∀ a, H a = none → Qv (rf a) (V fs (upd H a (.dictI [] 0)) us)) : We fs (.Dict [] [] pos) (V fs H us) Qv := w_dict0 q
theorem v_list0 {pos : Pos} (q : ∀ a, H a = none → Qv (rf a) (V fs (upd H a (.list [])) us)) : We fs (.List [] pos) (V fs H us) Qv := w_list (w_evs0 ⟨Nat.zero_le _, q⟩)
theorem v_set (q : ∀ a, H a = none → Qv (rf a) (V fs (upd H a (.set [])) us)) : Ac fs (.con (.type "set")) [] (V fs H us) Qv := bu_set q
theorem v_iter (h : H l = some (.list vs)) (q : ∀ a, H a = none → Qv (rf a) (V fs (upd H a (.iter l 0)) us)) : Ac fs (.con (.builtin "iter")) [rf l] (V fs H us) Qv := bu_iter h q
end
structure SR (H : Hp) (i : Addr) (L : Lay) (S : PS) (rv : AV) (p f : Int) : Prop where
  inst : H i = some (.inst 234 L.d)
  att : H L.d = some (.attrs (attrL L.D rv p f))
  dict : ∃ ep, H L.D = some (.dictI (n2i L S) ep)
  info : ∀ k ∈ S.nodes, H (L.ad k) = some (.slots 137 (slotL (L.sl k) (S.np k) k))
  suc : ∀ k ∈ S.nodes, H (L.sl k) = some (.list (ivs (S.su k)))
  inj : ∀ k ∈ S.nodes, ∀ l ∈ S.nodes, L.ad k = L.ad l → k = l
  injS : ∀ k ∈ S.nodes, ∀ l ∈ S.nodes, L.sl k = L.sl l → k = l
  nd : S.nodes.Nodup
noncomputable def updI {β : Type} (g : Int → β) (k : Int) (v : β) : Int → β := fun x => if x = k then v else g x
theorem updI_same {β : Type} {g : Int → β} {k : Int} {v : β} : updI g k v k = v := if_pos rfl
theorem updI_ne {β : Type} {g : Int → β} {k x : Int} {v : β} (h : x ≠ k) : updI g k v x = g x := if_neg h
noncomputable def own (L : Lay) (S : PS) (a : Addr) : Prop := a = L.d ∨ a = L.D ∨ ∃ k ∈ S.nodes, a = L.ad k ∨ a = L.sl k
noncomputable def kd : AObj → Nat
  | .list _ => 0
  | .dictI _ _ => 1
  | .attrs _ => 2
  | .inst _ _ => 3
  | .slots _ _ => 4
  | .set _ => 6
  | .iter _ _ => 7
  | _ => 5
section
variable {H H' H'' : Hp} {i a b : Addr} {L L' L'' : Lay} {S S' S'' : PS} {rv rv' : AV} {p p' f f' k : Int} {o o' : AObj}
theorem ne_of (h : H a = some o) (h' : H b = some o') (n : (kd o == kd o') = false) : a ≠ b := fun z => absurd (congrArg kd (smj (h.symm.trans (z ▸ h')))) (beq_eq_false_iff_ne.mp n)
theorem ne_new (h : H a = some o) (h' : H b = none) : a ≠ b := fun z => nos (h'.symm.trans (z ▸ h))
theorem up_ne' (h : b ≠ a) (e : H b = some o) : upd H a o' b = some o := (upd_ne h).trans e
theorem upd_upd : upd (upd H a o) a o' = upd H a o' := funext fun z => by
  unfold upd
  by_cases h : z = a
  · rw [if_pos h, if_pos h]
  · rw [if_neg h, if_neg h, if_neg h]
theorem upd_comm (n : a ≠ b) : upd (upd H a o) b o' = upd (upd H b o') a o := funext fun z => by
  unfold upd
  by_cases h : z = a
  · rw [if_pos h, if_neg (show ¬ z = b from fun q => n (h.symm.trans q)), if_pos h]
  · rw [if_neg h, if_neg h]
theorem SR.ext (h : SR H i L S rv p f) (hx : ∀ a o, (a = i ∨ own L S a) → H a = some o → H' a = some o) : SR H' i L S rv p f :=
  ⟨hx _ _ (.inl rfl) h.inst, hx _ _ (.inr (.inl rfl)) h.att, h.dict.imp fun ep e => hx _ _ (.inr (.inr (.inl rfl))) e, fun k hk => hx _ _ (.inr (.inr (.inr ⟨k, hk, .inl rfl⟩))) (h.info k hk), fun k hk => hx _ _ (.inr (.inr (.inr ⟨k, hk, .inr rfl⟩))) (h.suc k hk), h.inj, h.injS, h.nd⟩
theorem SR.notOwn_list (h : SR H i L S rv p f) {vs : List AV} (e : H a = some (.list vs)) (hn : ∀ k ∈ S.nodes, a ≠ L.sl k) : ¬ own L S a := fun z => z.elim (fun z => ne_of e h.att rfl z) fun z => z.elim (fun z => let ⟨_, h3⟩ := h.dict; ne_of e h3 rfl z)
  fun ⟨k, hk, z⟩ => z.elim (fun z => ne_of e (h.info k hk) rfl z) (hn k hk)
theorem SR.other (h : SR H i L S rv p f) (hi : a ≠ i) (hn : ¬ own L S a) : SR (upd H a o) i L S rv p f := h.ext fun b o hb e => up_ne' (fun z => hb.elim (fun y => hi (z.symm.trans y)) fun y => hn (z ▸ y)) e
theorem SR.setAtt (h : SR H i L S rv p f) : SR (upd H L.d (.attrs (attrL L.D rv' p' f'))) i L S rv' p' f' :=
  let ⟨ep, h3⟩ := h.dict
  ⟨up_ne' (ne_of h.inst h.att rfl) h.inst, upd_same, ⟨ep, up_ne' (ne_of h3 h.att rfl) h3⟩, fun k hk => up_ne' (ne_of (h.info k hk) h.att rfl) (h.info k hk),
    fun k hk => up_ne' (ne_of (h.suc k hk) h.att rfl) (h.suc k hk), h.inj, h.injS, h.nd⟩
theorem SR.setNp (h : SR H i L S rv p f) (hk : k ∈ S.nodes) (v : Int) : SR (upd H (L.ad k) (.slots 137 (slotL (L.sl k) v k))) i L { S with np := updI S.np k v } rv p f := by
  obtain ⟨ep, h3⟩ := h.dict
  refine ⟨up_ne' (ne_of h.inst (h.info k hk) rfl) h.inst, up_ne' (ne_of h.att (h.info k hk) rfl) h.att, ⟨ep, up_ne' (ne_of h3 (h.info k hk) rfl) h3⟩, fun l hl => ?_,
    fun l hl => up_ne' (ne_of (h.suc l hl) (h.info k hk) rfl) (h.suc l hl), h.inj, h.injS, h.nd⟩
  by_cases e : l = k
  · rw [e, show ({ S with np := updI S.np k v } : PS).np k = v from updI_same]; exact upd_same
  · rw [show ({ S with np := updI S.np k v } : PS).np l = S.np l from updI_ne e]
    exact up_ne' (fun z => e (h.inj _ hl _ hk z)) (h.info l hl)
theorem SR.setSu (h : SR H i L S rv p f) (hk : k ∈ S.nodes) (v : List Int) : SR (upd H (L.sl k) (.list (ivs v))) i L { S with su := updI S.su k v } rv p f := by
  obtain ⟨ep, h3⟩ := h.dict
  refine ⟨up_ne' (ne_of h.inst (h.suc k hk) rfl) h.inst, up_ne' (ne_of h.att (h.suc k hk) rfl) h.att, ⟨ep, up_ne' (ne_of h3 (h.suc k hk) rfl) h3⟩,
    fun l hl => up_ne' (ne_of (h.info l hl) (h.suc k hk) rfl) (h.info l hl), fun l hl => ?_, h.inj, h.injS, h.nd⟩
  by_cases e : l = k
  · rw [e, show ({ S with su := updI S.su k v } : PS).su k = v from updI_same]; exact upd_same
  · rw [show ({ S with su := updI S.su k v } : PS).su l = S.su l from updI_ne e]
    exact up_ne' (fun z => e (h.injS _ hl _ hk z)) (h.suc l hl)
theorem n2i_lookup (L : Lay) (S : PS) (k : Int) : (n2i L S).lookup k = if k ∈ S.nodes then some (rf (L.ad k)) else none := by
  unfold n2i
  generalize S.nodes = ns
  induction ns with
  | nil => rfl
  | cons a r ih =>
    rw [List.map_cons, List.lookup_cons, ih]
    by_cases e : k = a
    · rw [e, beq_self_eq_true, if_pos List.mem_cons_self]
    · rw [beq_eq_false_iff_ne.mpr e]
      exact ite_congr (propext ⟨List.mem_cons_of_mem _, fun z => (List.mem_cons.mp z).resolve_left e⟩) (fun _ => rfl) fun _ => rfl
theorem n2i_in (hk : k ∈ S.nodes) : (n2i L S).lookup k = some (rf (L.ad k)) := by rw [n2i_lookup, if_pos hk]
theorem n2i_out (hk : k ∉ S.nodes) : (n2i L S).lookup k = none := by rw [n2i_lookup, if_neg hk]
structure Ex (H H' : Hp) (L L' : Lay) (S S' : PS) : Prop where
  d : L'.d = L.d
  D : L'.D = L.D
  old : ∀ k ∈ S.nodes, k ∈ S'.nodes ∧ L'.ad k = L.ad k ∧ L'.sl k = L.sl k
  new : ∀ k ∈ S'.nodes, k ∉ S.nodes → H (L'.ad k) = none ∧ H (L'.sl k) = none
  dom : ∀ a, H' a = none → H a = none
  fr : ∀ a o, H a = some o → ¬ own L S a → H' a = some o
theorem Ex.notOwn (h : Ex H H' L L' S S') (e : H a = some o) (hn : ¬ own L S a) : ¬ own L' S' a := fun z => z.elim (fun z => hn (.inl (z.trans h.d))) fun z => z.elim (fun z => hn (.inr (.inl (z.trans h.D)))) fun ⟨k, hk, z⟩ => by
  by_cases hk' : k ∈ S.nodes
  · obtain ⟨_, e1, e2⟩ := h.old k hk'
    exact hn (.inr (.inr ⟨k, hk', z.imp (·.trans e1) (·.trans e2)⟩))
  · obtain ⟨n1, n2⟩ := h.new k hk hk'
    exact z.elim (fun z => nos (n1.symm.trans (z ▸ e))) fun z => nos (n2.symm.trans (z ▸ e))
theorem Ex.trans (h : Ex H H' L L' S S') (h' : Ex H' H'' L' L'' S' S'') : Ex H H'' L L'' S S'' :=
  ⟨h'.d.trans h.d, h'.D.trans h.D, fun k hk => let ⟨a, b, c⟩ := h.old k hk; let ⟨a', b', c'⟩ := h'.old k a; ⟨a', b'.trans b, c'.trans c⟩, fun k hk hn => by
    by_cases hk' : k ∈ S'.nodes
    · obtain ⟨_, e1, e2⟩ := h'.old k hk'; rw [e1, e2]; exact h.new k hk' hn
    · exact (h'.new k hk hk').imp (h.dom _) (h.dom _), fun a z => h.dom a (h'.dom a z), fun a o e hn => h'.fr a o (h.fr a o e hn) (h.notOwn e hn)⟩
theorem Ex.refl : Ex H H L L S S := ⟨rfl, rfl, fun _ h => ⟨h, rfl, rfl⟩, fun _ h n => absurd h n, fun _ h => h, fun _ _ e _ => e⟩
theorem upd_dom {z : Addr} (e : upd H a o z = none) : H z = none := by
  by_cases h : z = a
  · exact son ((show upd H a o z = some o from if_pos h).symm.trans e)
  · exact (upd_ne h).symm.trans e
theorem Ex.set (hn : own L S a) (hs : S'.nodes = S.nodes) : Ex H (upd H a o) L L S S' := ⟨rfl, rfl, fun _ h => ⟨hs ▸ h, rfl, rfl⟩, fun _ h n => absurd (hs ▸ h) n, fun _ => upd_dom, fun _ _ e hb => up_ne' (fun z => hb (z ▸ hn)) e⟩
noncomputable def _root_.Mine.PS.getI (S : PS) (k : Int) : PS := if k ∈ S.nodes then S else ⟨S.nodes ++ [k], updI S.np k 0, updI S.su k []⟩
theorem PS.getI_in (h : k ∈ S.nodes) : S.getI k = S := if_pos h
theorem PS.getI_out (h : k ∉ S.nodes) : S.getI k = ⟨S.nodes ++ [k], updI S.np k 0, updI S.su k []⟩ := if_neg h
theorem PS.getI_mem (S : PS) (k : Int) : k ∈ (S.getI k).nodes := by
  by_cases h : k ∈ S.nodes
  · rw [PS.getI_in h]; exact h
  · rw [PS.getI_out h]; exact List.mem_append_right _ List.mem_cons_self
theorem gPut_out {v : AV} (h : k ∉ S.nodes) : gPut k v (n2i L S) = n2i L S ++ [(k, v)] := by
  unfold n2i
  revert h
  generalize S.nodes = ns
  induction ns with
  | nil => intro _; rfl
  | cons a r ih =>
    intro h
    rw [List.map_cons]
    unfold gPut
    rw [if_neg (show ¬ a = k from fun z => h (z ▸ List.mem_cons_self)), ih fun z => h (List.mem_cons_of_mem _ z)]
    rfl
theorem SR.new (h : SR H i L S rv p f) (hk : k ∉ S.nodes) {N M : Addr} (hN : H N = none) (hM : H M = none) (hNM : N ≠ M) {ep : Nat} :
    SR (upd (upd (upd H N (.slots 137 (slotL M 0 k))) M (.list [])) L.D (.dictI (gPut k (rf N) (n2i L S)) ep)) i ⟨L.d, L.D, updI L.ad k N, updI L.sl k M⟩ (S.getI k) rv p f ∧
    Ex H (upd (upd (upd H N (.slots 137 (slotL M 0 k))) M (.list [])) L.D (.dictI (gPut k (rf N) (n2i L S)) ep)) L ⟨L.d, L.D, updI L.ad k N, updI L.sl k M⟩ S (S.getI k) := by
  obtain ⟨ep', h3⟩ := h.dict
  rw [PS.getI_out hk]
  have keep : ∀ a o, H a = some o → a ≠ L.D → upd (upd (upd H N (.slots 137 (slotL M 0 k))) M (.list [])) L.D (.dictI (gPut k (rf N) (n2i L S)) ep) a = some o := fun a o e z => up_ne' z (up_ne' (ne_new e hM) (up_ne' (ne_new e hN) e))
  have ne : ∀ l ∈ S.nodes, l ≠ k := fun l hl z => hk (z ▸ hl)
  have mm : ∀ {l}, l ∈ S.nodes ++ [k] → l ∈ S.nodes ∨ l = k := fun z => (List.mem_append.mp z).imp id List.mem_singleton.mp
  have inj : ∀ {g : Int → Addr} {X : Addr}, (∀ l ∈ S.nodes, g l ≠ X) → (∀ a ∈ S.nodes, ∀ b ∈ S.nodes, g a = g b → a = b) → ∀ a ∈ S.nodes ++ [k], ∀ b ∈ S.nodes ++ [k], updI g k X a = updI g k X b → a = b := fun {g X} hX hi a ha b hb e => by
    rcases mm ha with ha | ea <;> rcases mm hb with hb | eb
    · rw [updI_ne (ne a ha), updI_ne (ne b hb)] at e; exact hi a ha b hb e
    · rw [updI_ne (ne a ha), eb, updI_same] at e; exact absurd e (hX a ha)
    · rw [updI_ne (ne b hb), ea, updI_same] at e; exact absurd e.symm (hX b hb)
    · exact ea.trans eb.symm
  refine ⟨⟨keep _ _ h.inst (ne_of h.inst h3 rfl), keep _ _ h.att (ne_of h.att h3 rfl), ⟨ep, ?_⟩, fun l hl => ?_, fun l hl => ?_, inj (fun l hl => ne_new (h.info l hl) hN) h.inj, inj (fun l hl => ne_new (h.suc l hl) hM) h.injS, ?_⟩,
    ⟨rfl, rfl, fun l hl => ⟨List.mem_append_left _ hl, updI_ne (ne l hl), updI_ne (ne l hl)⟩, fun l hl hn => ?_, fun a z => upd_dom (upd_dom (upd_dom z)), fun a o e hn => keep a o e fun z => hn (.inr (.inl z))⟩⟩
  · show upd _ L.D _ L.D = some (AObj.dictI (n2i _ _) ep)
    rw [upd_same, gPut_out hk]
    unfold n2i
    dsimp only
    rw [List.map_append, List.map_cons, List.map_nil, updI_same, List.map_congr_left (f := fun j => (j, rf (updI L.ad k N j))) (g := fun j => (j, rf (L.ad j))) fun l hl => by rw [updI_ne (ne l hl)]]
  · show upd _ L.D _ (updI L.ad k N l) = some (AObj.slots 137 (slotL (updI L.sl k M l) (updI S.np k 0 l) l))
    rcases mm hl with hl | rfl
    · rw [updI_ne (ne l hl), updI_ne (ne l hl), updI_ne (ne l hl)]
      exact keep _ _ (h.info l hl) (ne_of (h.info l hl) h3 rfl)
    · rw [updI_same, updI_same, updI_same]
      exact up_ne' (Ne.symm (ne_new h3 hN)) (up_ne' hNM upd_same)
  · show upd _ L.D _ (updI L.sl k M l) = some (AObj.list (ivs (updI S.su k [] l)))
    rcases mm hl with hl | rfl
    · rw [updI_ne (ne l hl), updI_ne (ne l hl)]
      exact keep _ _ (h.suc l hl) (ne_of (h.suc l hl) h3 rfl)
    · rw [updI_same, updI_same]
      exact up_ne' (Ne.symm (ne_new h3 hM)) upd_same
  · exact List.nodup_append.mpr ⟨h.nd, List.nodup_cons.mpr ⟨List.not_mem_nil, .nil⟩, fun a ha b hb => List.mem_singleton.mp hb ▸ ne a ha⟩
  · rcases mm hl with hl | rfl
    · exact absurd hl hn
    · show H (updI L.ad l N l) = none ∧ H (updI L.sl l M l) = none
      rw [updI_same, updI_same]; exact ⟨hN, hM⟩
end
theorem ivs_get {l : List Int} {i : Nat} {v : AV} (h : (ivs l)[i]? = some v) : ∃ j, l[i]? = some j ∧ v = .int j := by
  unfold ivs at h
  rw [List.getElem?_map] at h
  obtain ⟨j, h1, rfl⟩ := Option.map_eq_some_iff.mp h
  exact ⟨j, h1, rfl⟩
theorem ivs_len {l : List Int} : (ivs l).length = l.length := List.length_map ..
theorem take_succ {α : Type} {l : List α} {i : Nat} {j : α} (h : l[i]? = some j) : l.take (i + 1) = l.take i ++ [j] := by rw [List.take_succ, h]; rfl
end Mine
end
section
namespace Mine
open PySem PySem.W PyProof.Rows
noncomputable def midK (M : St → Prop) (K : AFlow → St → Prop) (fl : AFlow) (s : St) : Prop := match fl with
  | .next => M s
  | fl => K fl s
section
variable {M : St → Prop} {K : AFlow → St → Prop} {σ : St} {v : AV}
theorem mk_next (h : M σ) : midK M K .next σ := h
theorem mk_ret (h : K (.ret v) σ) : midK M K (.ret v) σ := h
theorem mk_cont (h : K .cont σ) : midK M K .cont σ := h
end
inductive NxF (fs : FS) (us : List (Option AV)) (I : Hp → Prop) (s : St) : Prop
  | mk (H' : Hp) (us' : List (Option AV)) (h2 : s = V fs H' us') (h3 : mask us us' = us) (h4 : I H') : NxF fs us I s
inductive NxW {α : Type} (fs : FS) (u : α → List (Option AV)) (us : List (Option AV)) (I : Nat → Hp → α → Prop) (k : Nat) (s : St) : Prop
  | mk (k' : Nat) (H' : Hp) (us' : List (Option AV)) (a : α) (h1 : k' < k) (h2 : s = V fs H' us') (h3 : mask us us' = u a) (h4 : I k' H' a) : NxW fs u us I k s
inductive NxM {α : Type} (fs : FS) (u : α → List (Option AV)) (M : Hp → α → Prop) (s : St) : Prop
  | mk (H : Hp) (us : List (Option AV)) (a : α) (h1 : s = V fs H us) (h2 : us = u a) (h3 : M H a) : NxM fs u M s
section
variable {T : Top0} {n : Nat} {sc : Scope} {cells : List (Str × Nat)} {lam c : Bool} {H : Hp} {us : List (Option AV)} {t i : Expr} {b b' ss : List Stmt} {p : Pos} {σ : St} {K : AFlow → St → Prop} {α : Type}
theorem x_forC (hnd : ndk (locs sc) = true) (h : Wi ⟨T, n, sc, cells, lam⟩ t i σ fun vs dom s => ∃ H us, s = V ⟨T, n, sc, cells, lam⟩ H us ∧ ∃ I : Nat → Hp → Prop, I 0 H ∧ (∀ i H, I i H → ∀ ns, dom ⟨H, ns⟩) ∧
    (∀ i v H, vs[i]? = some v → I i H → Wa ⟨T, n, sc, cells, lam⟩ t v (V ⟨T, n, sc, cells, lam⟩ H us) fun s => Wx ⟨T, n, sc, cells, lam⟩ b s (stepK (NxF ⟨T, n, sc, cells, lam⟩ us (I (i + 1))) K)) ∧
    ∀ H, I vs.length H → K .next (V ⟨T, n, sc, cells, lam⟩ H us)) : W1 ⟨T, n, sc, cells, lam⟩ (.For t i b [] p) σ K :=
  x_for' hnd ⟨h.1, fun Φ P K' E F ok k => h.2 Φ P K' E F ok fun P' Io own S vs dom s l ok' fr it s0 zz => k P' Io own S vs dom s l ok' fr it s0 (by
    obtain ⟨H, us, e, J, j0, jd, js, je⟩ := zz
    exact ⟨H, us, e, fun i H' us' => us' = us ∧ J i H', ⟨rfl, j0⟩, fun i H' us' j => jd i H' j.2, fun i v H' us' hv j => by
      obtain ⟨rfl, j⟩ := j
      exact fun Φ P y K E F ok r k => js i v H' hv j Φ P y K E F ok r fun P' s l ok' w => k P' s l ok' (w.mono fun fl s w => by
        cases fl with
        | next => obtain ⟨H2, us2, h2, h3, h4⟩ := w; exact ⟨H2, us2, h2, h3, h4⟩
        | cont => obtain ⟨H2, us2, h2, h3, h4⟩ := w; exact ⟨H2, us2, h2, h3, h4⟩
        | _ => exact w), fun H' us' j => by obtain ⟨rfl, j⟩ := j; exact je H' j⟩)⟩
theorem x_whileC (u : α → List (Option AV)) (m : Nat) (a : α) (hnd : ndk (locs sc) = true) (I : Nat → Hp → α → Prop) (h0 : I m H a)
    (h : ∀ k H a, I k H a → Wt ⟨T, n, sc, cells, lam⟩ t (V ⟨T, n, sc, cells, lam⟩ H (u a)) fun c s => Br c (Wx ⟨T, n, sc, cells, lam⟩ b s (stepK (NxW ⟨T, n, sc, cells, lam⟩ u (u a) I k) K)) (Wx ⟨T, n, sc, cells, lam⟩ b' s K)) :
    W1 ⟨T, n, sc, cells, lam⟩ (.While t b b' p) (V ⟨T, n, sc, cells, lam⟩ H (u a)) K :=
  x_while' m hnd (fun k H us => ∃ a, us = u a ∧ I k H a) ⟨a, rfl, h0⟩ fun k H us q => by
    obtain ⟨a, e, j⟩ := q
    subst e
    exact (h k H a j).mono fun c s q => ⟨fun e => (q.1 e).mono fun fl s w => by
      cases fl with
      | next => obtain ⟨k', H', us', a', h1, h2, h3, h4⟩ := w; exact ⟨k', H', us', h1, h2, a', h3, h4⟩
      | cont => obtain ⟨k', H', us', a', h1, h2, h3, h4⟩ := w; exact ⟨k', H', us', h1, h2, a', h3, h4⟩
      | _ => exact w, q.2⟩
theorem br_cutC (u : α → List (Option AV)) (M : Hp → α → Prop)
    (h : Br c (Wx ⟨T, n, sc, cells, lam⟩ b σ (midK (NxM ⟨T, n, sc, cells, lam⟩ u M) K)) (Wx ⟨T, n, sc, cells, lam⟩ b' σ (midK (NxM ⟨T, n, sc, cells, lam⟩ u M) K)))
    (hr : ∀ H a, M H a → Wx ⟨T, n, sc, cells, lam⟩ ss (V ⟨T, n, sc, cells, lam⟩ H (u a)) K) : Br c (Wx ⟨T, n, sc, cells, lam⟩ b σ (seqK ⟨T, n, sc, cells, lam⟩ ss K)) (Wx ⟨T, n, sc, cells, lam⟩ b' σ (seqK ⟨T, n, sc, cells, lam⟩ ss K)) := by
  have k : ∀ fl s, midK (NxM ⟨T, n, sc, cells, lam⟩ u M) K fl s → seqK ⟨T, n, sc, cells, lam⟩ ss K fl s := fun fl s z => by
    cases fl with
    | next => obtain ⟨H, us, a, rfl, rfl, z⟩ := z; exact hr H a z
    | _ => exact z
  exact ⟨fun e => (h.1 e).mono k, fun e => (h.2 e).mono k⟩
end
end Mine
end
namespace Mine
open PySem PySem.W PyProof.Rows
local macro_rules | `(tactic| walk_at "ob") => `(tactic| (repeat (first
  | with_reducible assumption
  | with_reducible exact upd_same
  | (refine (upd_ne ?_).trans ?_; (focus (first | with_reducible assumption | (with_reducible refine Ne.symm ?_; with_reducible assumption)))))))
local macro_rules | `(tactic| walk_at $z:str) => do
  if z.getString != "ws" && z.getString != "wv" then Lean.Macro.throwUnsupported
  let cs : List (String × Lean.TSyntax `term) := [("?", ← `(?_)), ("f", ← `(fun _ => rfl)), ("F", ← `(fun _ _ => rfl)), ("r", ← `(rfl)), ("D", ← `(by with_unfolding_all decide +kernel)), ("R", ← `(by with_unfolding_all rfl)), ("o", ← `(by walk_at "ob")), ("d", ← `(by decide))]
  let word (t : String) : Lean.TSyntax `term := match cs.lookup t with
    | some x => x
    | none => match t.splitOn ":" with
      | [a, b] => Lean.Syntax.mkApp (Lean.mkIdent a.toName) #[Lean.mkIdent b.toName]
      | _ => if t.isNat then Lean.Syntax.mkNumLit t else Lean.mkIdent t.toName
  let alt (s : String) : Lean.MacroM (Lean.TSyntax `tactic) := match (s.splitOn " ").map word with
    | h :: r => `(tactic| with_reducible refine $(Lean.Syntax.mkApp h r.toArray))
    | [] => `(tactic| fail)
  let one (l : List (Lean.TSyntax `tactic)) : Lean.MacroM (Lean.TSyntax `tactic) := do l.foldrM (fun x r => `(tactic| first | $x:tactic | $r:tactic)) (← `(tactic| fail))
  let ps : List (Lean.TSyntax `term) := [← `(Br _ _ _), ← `(We _ (.Name _ _) _ _), ← `(Ws _ _ _ _ _), ← `(∃ c, Cmp _ _ _ _ c ∧ _), ← `(∃ v, At _ _ _ v ∧ _), ← `(∃ v, At _ _ _ (.int v) ∧ _), ← `(∃ v, _ = _ ∧ Inst _ v ∧ _), ← `(Sa _ _ _ _ _), ← `(∃ v, Mg (.con _) _ v _ ∧ _), ← `(We _ (.Call (.Attribute _ _ _) _ _ _) _ _)]
  let row (s : String) : Lean.MacroM (Lean.TSyntax `tactic) := do match s.splitOn "&" with
    | [a] => alt a
    | i :: r => `(tactic| ((with_reducible show $(ps.getD i.toNat! default)); $(← one (← r.mapM alt))))
    | [] => `(tactic| fail)
  `(tactic| (repeat ($(← one (← (("w_cons ?|k_next ?|k_ret ?|k_brk ?|k_cont ?|sk_next ?|sk_cont ?|sk_ret ?|sk_brk ?|mk_next ?|mk_ret ?|mk_cont ?|w_nil ?|x_if ?|x_ret ?|x_expr ?|x_brk ?|x_cont ?|x_asg f f ?|x_asgC ?|a_one f ?|a_name ?|a_attr ?|a_sub ?|c_if1 ?|c_if0 ?|x_augA ?|x_augS ?|x_assert ?|0&br_t R ?&br_f R ?|1&w_bl D gn_len bl_len ?&w_bl D gn_bool bl_bool ?&w_bl D gn_tuple bl_tuple ?&w_bl D gn_set bl_set ?&w_bl D gn_iter bl_iter ?&w_bl D gn_range bl_range ?&w_bl D gn_list bl_list ?&w_bl D gn_sorted bl_sorted ?&w_bl D gn_any bl_any ?&w_bl D gn_all bl_all ?&w_bl D gn_sum bl_sum ?&w_bl D gn_isinstance bl_isinstance ?&w_bl D gn_str bl_str ?&w_gl D gl__NodeInfo ?&w_gl D gl_TopologicalSorter ?&w_gl D gl_unmatched ?&w_gl D gl_split_header_words ?&w_gl D gl_join_header_words ?&w_gl D gl__translate ?&w_gl D gl_escape ?&w_gl D gl__law_takes ?&w_gl D gl__law_given ?&w_gl D gl_HEADER_TOKEN_RE ?&w_gl D gl_HEADER_QUOTED_VALUE_RE ?&w_gl D gl_HEADER_VALUE_RE ?&w_gl D gl_HEADER_ESCAPE_RE ?&w_gl D gl_HEADER_JOIN_TOKEN_RE ?&w_gl D gl_HEADER_JOIN_ESCAPE_RE ?&w_gl D gl__special_chars_map ?&w_gl D gl__twin_re_7 ?&w_gl D gl__twin_re_1 ?&w_gi D gl__NODE_OUT ?&w_gi D gl__NODE_DONE ?&w_ce D R o ?&w_loc 0 D R ?&w_loc 1 D R ?&w_loc 2 D R ?&w_loc 3 D R ?&w_loc 4 D R ?&w_loc 5 D R ?&w_loc 6 D R ?&w_loc 7 D R ?&w_loc 8 D R ?&w_loc 9 D R ?|2&s_ce D R o ?&s_loc 0 D R ?&s_loc 1 D R ?&s_loc 2 D R ?&s_loc 3 D R ?&s_loc 4 D R ?&s_loc 5 D R ?&s_loc 6 D R ?&s_loc 7 D R ?&s_loc 8 D R ?&s_loc 9 D R ?|w_none ?|w_bool ?|w_int ?|w_str ?|w_attr F ?|t_cmp r ?|w_cmp r ?|w_bin ?|w_usub ?|w_andor ?|w_named ?|t_not ?|t_bool ?|ta_last ?|ta_and ?|ta_or ?|w_slice ?|w_opt0 ?|w_opt1 ?|w_sub ?|w_call f ?|wa_nil ?|wa_one f ?|wa_more ?|wa_star ?|w_evs0 ?|w_evs1 f ?|w_evss ?|v_dict0 ?|v_list0 ?|w_list ?|w_tuple ?|e_int ?|e_str ?|e_bop o_addI ?|e_tru tr_bool ?|e_tru tr_none ?|e_tru tr_mat ?|e_kp kp_blt ?|e_kp kp_typ ?|e_kp kp_bm ?|3&e_cmp c_lt ?&e_cmp c_ge ?&e_cmp c_gt ?&f_eqI ?&f_neI ?&f_eqS ?&f_neS ?&e_cmp n_str ?&e_cmp n_strN ?&e_cmp i_bool ?&f_is R ?&f_isnt R ?&f_ins o ?&f_ind o ?|4&f_info o o ?&f_pass o o ?&f_fin o o ?&f_ready o o R ?&f_node o ?&f_np o ?&f_su o ?&f_append o ?&f_next o ?&f_string ?|5&f_passI o o ?&f_finI o o ?&f_npI o ?|6&f_inst o o ?|7&v_ready o o ?&v_pass o o ?&v_fin o o ?&v_i1 o o ?&v_i2 o o ?&v_i3 o o ?&v_i4 o o ?&v_np o ?&v_s0 o ?&v_s1 o ?&v_s2 o ?|e_mg mg_span ?|e_mg mg_group ?|e_mg mg_lstrip ?|e_mg mg_startswith ?|e_mg mg_join ?|e_mg mg_replace ?|e_mg mg_subn ?|e_mg mg_search:p55_at ?|e_mg mg_search:p60_at ?|e_mg mg_search:p65_at ?|e_mg mg_sub:p99_at ?|e_mg mg_sub:p70_at ?|e_mg mg_full ?|e_mg mg_subn ?|m_span ?|a_more f f ?|a_tup r f ?|a_s1 f ?|a_s0 ?|e_kp kp_137:ctor137 ?|e_kp kp_234:ctor234 ?|e_kp kp_lib:lib50 ?|e_kp kp_lib:lib77 ?|e_kp kp_lib:lib94 ?|e_kp kp_lib:lib111 ?|e_kp kp_lib:lib118 ?|e_kp kp_lib:lib243 ?|e_kp kp_lib:lib248 ?|8&f_mappend o ?&f_mclear o ?&f_mget o ?&f_msadd o ?|9&w_mine F r r d mo_prepare ?&w_mine F r r d mo_get_ready ?&w_mine F r r d mo_is_active ?&w_mine F r r d mo__find_cycle ?&w_mine F r r d mo__get_nodeinfo ?&w_mineS F r r mo_done ?&w_meth F r r d ?|t_val F ?".splitOn "|").filter fun r => z.getString == "ws" || !["w_list ?", "v_list0 ?"].contains r).mapM row)):tactic)))
section
open PySem PySem.W PyProof.Rows
section
variable {H : Hp} {n : Nat} {sc : Scope} {cells : List (Str × Nat)} {lam : Bool} {us : List (Option AV)} {i R : Addr} {L : Lay} {S : PS} {p f k : Int} {Q : AV → Hp → Prop} {r : List Int} {rv : AV}
theorem new_ok {Q : AV → St → Prop} (q : ∀ H' i L, SR H' i L ⟨[], fun _ => 0, fun _ => []⟩ .none 0 0 → SubH H H' → (∀ a, own L ⟨[], fun _ => 0, fun _ => []⟩ a → H a = none) → H i = none → Q (rf i) (V ⟨TT, n + 1, sc, cells, lam⟩ H' us)) :
    Ac ⟨TT, n + 1, sc, cells, lam⟩ (.con (.ref 234)) [] (V ⟨TT, n + 1, sc, cells, lam⟩ H us) Q := by
  refine ac_234 rfl ctor234 fun d i h1 h2 h3 => ?_
  have h1 : H d = none := h1
  have h2 : H i = none := h2
  show Body TT n _ _ (upd (upd H d _) i _) _
  obtain ⟨H1, hH, e1, e2, s1⟩ : ∃ H1, upd (upd H d (.attrs [])) i (.inst 234 d) = H1 ∧ H1 i = some (.inst 234 d) ∧ H1 d = some (.attrs []) ∧ SubH H H1 := ⟨_, rfl, upd_same, (upd_ne (Ne.symm h3)).trans upd_same, fun a ob e => up_ne' (ne_new e h2) (up_ne' (ne_new e h1) e)⟩
  rw [hH]
  with_reducible refine body_0 (us := [some (rf i), some .none, none, none]) (by decide +kernel) (by decide +kernel) (by kernel_rfl) ?_
  conv => arg 2; whnf
  walk_at "ws"
  intro D hD
  have hD : H1 D = none := hD
  have n1 : i ≠ D := ne_new e1 hD
  have n2 : d ≠ D := ne_new e2 hD
  have n3 : H D = none := by
    cases e : H D with
    | none => rfl
    | some ob => exact nos (hD.symm.trans (s1 _ _ e))
  walk_at "ws"
  refine ⟨_, fun _ _ z => z, rfl, q _ i ⟨d, D, fun _ => 0, fun _ => 0⟩ ⟨?_, ?_, ⟨0, ?_⟩, (fun _ h => nomatch h), (fun _ h => nomatch h), (fun _ h => nomatch h), (fun _ h => nomatch h), .nil⟩ (fun a ob e => ?_) (fun a z => ?_) h2⟩
  · walk_at "ob"
  · walk_at "ob"
  · show _ = some (AObj.dictI [] 0)
    walk_at "ob"
  · have e' := s1 a ob e
    have m1 : a ≠ D := ne_new e' hD
    have m2 : a ≠ d := ne_new e h1
    walk_at "ob"
  · rcases z with rfl | rfl | ⟨_, z, _⟩
    · exact h1
    · exact n3
    · exact nomatch z
theorem node_ok {Q : AV → St → Prop} (q : ∀ N M, H N = none → H M = none → N ≠ M → Q (rf N) (V ⟨TT, n + 1, sc, cells, lam⟩ (upd (upd H N (.slots 137 (slotL M 0 k))) M (.list [])) us)) :
    Ac ⟨TT, n + 1, sc, cells, lam⟩ (.con (.ref 137)) [.int k] (V ⟨TT, n + 1, sc, cells, lam⟩ H us) Q := by
  refine ac_137 rfl ctor137 fun i h1 => ⟨_, (by kernel_rfl : abind (ctOf 137) [rf i, .int k] = some [(("self" : Str), rf i), ("node", .int k)]), ?_⟩
  have h1 : H i = none := h1
  show Body TT n _ _ (upd H i _) _
  obtain ⟨H1, hH, e1⟩ : ∃ H1, upd H i (.slots 137 []) = H1 ∧ H1 i = some (.slots 137 []) := ⟨_, rfl, upd_same⟩
  rw [hH]
  with_reducible refine body_0 (us := [some (rf i), some (.int k)]) (by decide +kernel) (by decide +kernel) (by kernel_rfl) ?_
  conv => arg 2; whnf
  walk_at "ws"
  intro M hM
  have n1 : i ≠ M := ne_new upd_same hM
  have n2 : H M = none := upd_dom (hH ▸ upd_dom (upd_dom hM))
  walk_at "ws"
  refine ⟨_, fun _ _ z => z, rfl, ?_⟩
  rw [← hH, upd_upd, ← upd_comm n1, upd_upd]
  show Q _ (V _ (upd (upd (upd H i _) i _) M _) _)
  rw [upd_upd]
  exact q i M h1 n2 n1
theorem get_info_ok (h : SR H i L S rv p f) (hl : S.nodes.length ≤ 1000) (q : ∀ H' L', SR H' i L' (S.getI k) rv p f → Ex H H' L L' S (S.getI k) → Q (rf (L'.ad k)) H') : Body TT (n + 1) (fnOf 177) [("self", rf i), ("node", .int k)] H Q := by
  with_reducible refine body_0 (us := [some (rf i), some (.int k), none]) (by decide +kernel) (by decide +kernel) (by kernel_rfl) ?_
  conv => arg 2; whnf
  have h1 := h.inst
  have h2 := h.att
  obtain ⟨ep, h3⟩ := h.dict
  walk_at "ws"
  refine m_get h3 ?_
  by_cases hk : k ∈ S.nodes
  · rw [n2i_in hk]
    show Ws _ _ (rf _) _ _
    walk_at "ws"
    exact ⟨H, fun _ _ z => z, q H L (by rw [PS.getI_in hk]; exact h) (by rw [PS.getI_in hk]; exact Ex.refl)⟩
  · rw [n2i_out hk]
    show Ws _ _ .none _ _
    walk_at "ws"
    refine node_ok fun N M e1 e2 e3 => ?_
    have n1 : L.D ≠ N := ne_new h3 e1
    have n2 : L.D ≠ M := ne_new h3 e2
    have n3 : i ≠ N := ne_new h1 e1
    have n4 : i ≠ M := ne_new h1 e2
    have n5 : L.d ≠ N := ne_new h2 e1
    have n6 : L.d ≠ M := ne_new h2 e2
    walk_at "ws"
    refine v_dict (by walk_at "ob") (by unfold n2i; rw [List.length_map]; walk_at "lm") ?_
    walk_at "ws"
    have w := h.new hk e1 e2 e3 (ep := if (n2i L S).any (·.1 == k) then ep else ep + 1)
    refine ⟨_, fun _ _ z => z, ?_⟩
    have q := q _ _ w.1 w.2
    rw [show (⟨L.d, L.D, updI L.ad k N, updI L.sl k M⟩ : Lay).ad k = N from updI_same] at q
    exact q
end
end
section
open PySem PySem.W PyProof.Rows
noncomputable def Bd (S : PS) (m : Nat) : Prop := S.nodes.length ≤ m ∧ ∀ j, (S.su j).length ≤ m
theorem updI_len {g : Int → List Int} {k j : Int} {v : List Int} {m : Nat} (h : ∀ j, (g j).length ≤ m) (hv : v.length ≤ m) : (updI g k v j).length ≤ m := by
  unfold updI
  by_cases e : j = k
  · rw [if_pos e]; exact hv
  · rw [if_neg e]; exact h j
theorem Bd.mono {S : PS} {m m' : Nat} (h : Bd S m) (l : m ≤ m') : Bd S m' := ⟨Nat.le_trans h.1 l, fun j => Nat.le_trans (h.2 j) l⟩
theorem Bd.getI {S : PS} {m : Nat} (h : Bd S m) (k : Int) : Bd (S.getI k) (m + 1) := by
  by_cases hk : k ∈ S.nodes
  · rw [PS.getI_in hk]; exact h.mono (Nat.le_succ _)
  · rw [PS.getI_out hk]
    exact ⟨by rw [List.length_append]; exact Nat.succ_le_succ h.1, fun j => updI_len (fun j => Nat.le_succ_of_le (h.2 j)) (Nat.zero_le _)⟩
theorem Bd.getS {S : PS} {m : Nat} (h : Bd S m) (k j : Int) : ((S.getI k).su j).length ≤ m := by
  by_cases hk : k ∈ S.nodes
  · rw [PS.getI_in hk]; exact h.2 j
  · rw [PS.getI_out hk]; exact updI_len h.2 (Nat.zero_le _)
noncomputable def _root_.Mine.PS.add1 (k : Int) (S : PS) (j : Int) : PS := { S.getI j with su := updI (S.getI j).su j ((S.getI j).su j ++ [k]) }
theorem Bd.add1 {S : PS} {m : Nat} (h : Bd S m) (k j : Int) : Bd (S.add1 k j) (m + 1) :=
  ⟨(h.getI j).1, fun l => updI_len (fun l => Nat.le_succ_of_le (h.getS j l)) (by rw [List.length_append]; exact Nat.succ_le_succ (h.getS j j))⟩
noncomputable def _root_.Mine.PS.add0 (S : PS) (k : Int) (c : Int) : PS := { S.getI k with np := updI (S.getI k).np k ((S.getI k).np k + c) }
noncomputable def _root_.Mine.PS.add (S : PS) (k : Int) (preds : List Int) : PS := preds.foldl (PS.add1 k) (S.add0 k preds.length)
theorem Bd.foldl {k : Int} : ∀ (l : List Int) {S : PS} {m : Nat}, Bd S m → Bd (l.foldl (PS.add1 k) S) (m + l.length)
  | [], _, _, h => h
  | j :: r, S, m, h => by
    rw [List.foldl_cons, List.length_cons, Nat.add_comm r.length, ← Nat.add_assoc]
    exact Bd.foldl (k := k) r (h.add1 k j)
theorem Bd.add {S : PS} {m : Nat} (h : Bd S m) (k : Int) (preds : List Int) : Bd (S.add k preds) (m + 1 + preds.length) := Bd.foldl preds (h.getI k)
section
variable {H : Hp} {n : Nat} {i R : Addr} {L : Lay} {S : PS} {p f k : Int} {Q : AV → Hp → Prop} {r : List Int} {rv : AV}
inductive A2 (H0 : Hp) (i : Addr) (L : Lay) (S : PS) (k : Int) (preds : List Int) (p f : Int) (idx : Nat) (H : Hp) : Prop
  | mk (L2 : Lay) (x : SR H i L2 ((preds.take idx).foldl (PS.add1 k) (S.add0 k preds.length)) .none p f) (y : Ex H0 H L L2 S ((preds.take idx).foldl (PS.add1 k) (S.add0 k preds.length))) : A2 H0 i L S k preds p f idx H
theorem add_ok {preds : List Int} {m : Nat} (h : SR H i L S .none p f) (hb : Bd S m) (hm : m + preds.length ≤ 900) (q : ∀ H' L', SR H' i L' (S.add k preds) .none p f → Ex H H' L L' S (S.add k preds) → Q .none H') :
    Body TT (n + 2) (fnOf 184) [("self", rf i), ("node", .int k), ("predecessors", .tup (ivs preds))] H Q := by
  with_reducible refine body_0 (us := [some (rf i), some (.int k), some (.tup (ivs preds)), none, none, none]) (by decide +kernel) (by decide +kernel) (by kernel_rfl) ?_
  conv => arg 2; whnf
  have h1 := h.inst
  have h2 := h.att
  walk_at "ws"
  refine fc_V lib177 (by kernel_rfl) (get_info_ok (L := L) (k := k) h (by have := hb.1; lia) fun H1 L1 x1 y1 => ?_)
  have hk : k ∈ (S.getI k).nodes := S.getI_mem k
  have g1 := x1.inst
  have g2 := x1.info k hk
  walk_at "ws"
  refine bu_len (vs := ivs preds) (.tup _) (by rw [ivs_len]; walk_at "lm") ?_
  walk_at "ws"
  rw [ivs_len]
  have x2 := x1.setNp hk ((S.getI k).np k + preds.length)
  have y2 : Ex H (upd H1 (L1.ad k) (.slots 137 (slotL (L1.sl k) ((S.getI k).np k + preds.length) k))) L L1 S (S.add0 k preds.length) := y1.trans (Ex.set (S' := S.add0 k preds.length) (.inr (.inr ⟨k, hk, .inl rfl⟩)) rfl)
  generalize upd H1 (L1.ad k) (.slots 137 (slotL (L1.sl k) ((S.getI k).np k + preds.length) k)) = H2 at *
  refine x_forC (by decide +kernel) (i_plain (fun _ _ => rfl) ?_)
  walk_at "ws"
  refine e_sr sr_tup ⟨_, [some (rf i), some (.int k), some (.tup (ivs preds)), some (rf (L1.ad k)), none, none], rfl, A2 H i L S k preds p f, ⟨L1, x2, y2⟩, fun _ _ _ _ => trivial, ?_, ?_⟩
  · rintro idx v H' hv ⟨L2, x3, y3⟩
    obtain ⟨j, hj, rfl⟩ := ivs_get hv
    have hlt : idx < preds.length := (List.getElem?_eq_some_iff.mp hj).1
    have hbd : Bd ((preds.take idx).foldl (PS.add1 k) (S.add0 k preds.length)) (m + 1 + (preds.take idx).length) := Bd.foldl _ (show Bd (S.add0 k preds.length) (m + 1) from hb.getI k)
    have hs : (preds.take (idx + 1)).foldl (PS.add1 k) (S.add0 k preds.length) = PS.add1 k ((preds.take idx).foldl (PS.add1 k) (S.add0 k preds.length)) j := by rw [take_succ hj, List.foldl_append]; rfl
    generalize (preds.take idx).foldl (PS.add1 k) (S.add0 k preds.length) = S2 at *
    have hlen : (preds.take idx).length ≤ idx := List.length_take_le ..
    have c1 := x3.inst
    have c2 := x3.att
    walk_at "ws"
    refine fc_V lib177 (by kernel_rfl) (get_info_ok (L := L2) (k := j) x3 (by have := hbd.1; lia) fun H4 L3 x4 y4 => ?_)
    have hj3 : j ∈ (S2.getI j).nodes := S2.getI_mem j
    have g1 := x4.info j hj3
    have g2 := x4.suc j hj3
    walk_at "ws"
    refine v_append g2 (by rw [ivs_len]; have := (hbd.getI j).2 j; walk_at "lm") ?_
    walk_at "ws"
    refine ⟨_, _, rfl, rfl, L3, ?_, ?_⟩
    · rw [hs]
      have := x4.setSu hj3 ((S2.getI j).su j ++ [k])
      unfold ivs at this
      rw [List.map_append] at this
      exact this
    · rw [hs]; exact (y3.trans y4).trans (Ex.set (S' := S2.add1 k j) (.inr (.inr ⟨j, hj3, .inr rfl⟩)) rfl)
  · rintro H' ⟨L2, x3, y3⟩
    rw [ivs_len, List.take_length] at x3 y3
    walk_at "ws"
    exact ⟨_, fun _ _ z => z, q H' L2 x3 y3⟩
end
end
section
open PySem PySem.W PyProof.Rows
noncomputable def allNp (g : Int → Int) (r : List Int) (v : Int) : Int → Int := r.foldl (fun g k => updI g k v) g
structure Fz (H H' : Hp) (L : Lay) (S : PS) (R : Addr) : Prop where
  dom : ∀ a, H' a = none → H a = none
  fr : ∀ a o, H a = some o → ¬ own L S a → a ≠ R → H' a = some o
section
variable {H H' H'' : Hp} {L : Lay} {S S' : PS} {R a : Addr} {o : AObj}
theorem Fz.refl : Fz H H L S R := ⟨fun _ h => h, fun _ _ e _ _ => e⟩
theorem Fz.trans (h : Fz H H' L S R) (h' : Fz H' H'' L S R) : Fz H H'' L S R := ⟨fun a z => h.dom a (h'.dom a z), fun a o e n1 n2 => h'.fr a o (h.fr a o e n1 n2) n1 n2⟩
theorem Fz.set (h : own L S a ∨ a = R) : Fz H (upd H a o) L S R := ⟨fun _ => upd_dom, fun b o e n1 n2 => up_ne' (fun z => h.elim (fun h => n1 (z ▸ h)) fun h => n2 (z.trans h)) e⟩
theorem Fz.sn (h : Fz H H' L S R) (e : S'.nodes = S.nodes) : Fz H H' L S' R := ⟨h.dom, fun a o x n1 n2 => h.fr a o x (by unfold own at n1 ⊢; rw [← e]; exact n1) n2⟩
end
section
variable {H : Hp} {n : Nat} {i R : Addr} {L : Lay} {S : PS} {p f k : Int} {Q : AV → Hp → Prop} {r : List Int} {rv : AV}
inductive A3 (H0 : Hp) (i R : Addr) (L : Lay) (S : PS) (r : List Int) (p f : Int) (idx : Nat) (H : Hp) : Prop
  | mk (x : SR H i L { S with np := allNp S.np (r.take idx) (-1) } (rf R) p f) (c : H R = some (.list (ivs r))) (y : Fz H0 H L S R) : A3 H0 i R L S r p f idx H
theorem get_ready_ok (h : SR H i L S (rf R) p f) (hr : H R = some (.list (ivs r))) (hn : ∀ k ∈ S.nodes, R ≠ L.sl k) (hm : ∀ k ∈ r, k ∈ S.nodes) (hl : r.length ≤ 1000)
    (q : ∀ H', SR H' i L { S with np := allNp S.np r (-1) } (rf R) (p + r.length) f → H' R = some (.list []) → Fz H H' L S R → Q (.tup (ivs r)) H') : Body TT (n + 1) (fnOf 196) [("self", rf i)] H Q := by
  with_reducible refine body_0 (us := [some (rf i), none, none, none]) (by decide +kernel) (by decide +kernel) (by kernel_rfl) ?_
  conv => arg 2; whnf
  have h1 := h.inst
  have h2 := h.att
  obtain ⟨ep, h3⟩ := h.dict
  walk_at "ws"
  refine bu_tuple (.ref hr) (by rw [ivs_len]; walk_at "lm") ?_
  walk_at "ws"
  refine x_forC (by decide +kernel) (i_plain (fun _ _ => rfl) ?_)
  walk_at "ws"
  refine e_sr sr_tup ⟨_, [some (rf i), some (.tup (ivs r)), some (rf L.D), none], rfl, A3 H i R L S r p f, ⟨h, hr, Fz.refl⟩, fun _ _ _ _ => trivial, ?_, ?_⟩
  · rintro idx v H' hv ⟨x3, c3, y3⟩
    obtain ⟨j, hj, rfl⟩ := ivs_get hv
    have hjm : j ∈ S.nodes := hm j (List.mem_of_getElem? hj)
    obtain ⟨ep', g0⟩ := x3.dict
    have g1 := x3.info j hjm
    walk_at "ws"
    refine f_dict g0 (n2i_in (by exact hjm)) ?_
    walk_at "ws"
    have hne : L.ad j ≠ R := ne_of g1 c3 rfl
    refine ⟨_, _, rfl, rfl, ?_, up_ne' (Ne.symm hne) c3, y3.trans (Fz.set (.inl (.inr (.inr ⟨j, hjm, .inl rfl⟩))))⟩
    have := x3.setNp hjm (-1)
    rw [take_succ hj]
    unfold allNp
    rw [List.foldl_append]
    exact this
  · rintro H' ⟨x3, c3, y3⟩
    rw [ivs_len, List.take_length] at x3
    have g1 := x3.inst
    have g2 := x3.att
    have hne : R ≠ L.d := ne_of c3 g2 rfl
    have hne2 : R ≠ i := ne_of c3 g1 rfl
    walk_at "ws"
    refine v_clear c3 (by rw [ivs_len]; walk_at "lm") ?_
    walk_at "ws"
    refine bu_len (vs := ivs r) (.tup _) (by rw [ivs_len]; walk_at "lm") ?_
    walk_at "ws"
    have hno : ¬ own L { S with np := allNp S.np r (-1) } R := x3.notOwn_list c3 hn
    have x4 := (x3.other hne2 hno (o := .list [])).setAtt (rv' := rf R) (p' := p + ((ivs r).length : Int)) (f' := f)
    rw [ivs_len] at x4 ⊢
    exact ⟨_, fun _ _ z => z, q _ x4 (up_ne' hne upd_same) ((y3.trans (Fz.set (.inr rfl))).trans (Fz.set (.inl (.inl rfl))))⟩
end
end
section
open PySem PySem.W PyProof.Rows
noncomputable def dec1 (st : (Int → Int) × List Int) (x : Int) : (Int → Int) × List Int := (updI st.1 x (st.1 x - 1), if st.1 x - 1 = 0 then st.2 ++ [x] else st.2)
noncomputable def done1 (su : Int → List Int) (st : (Int → Int) × List Int) (k : Int) : (Int → Int) × List Int := (su k).foldl dec1 (updI st.1 k (-2), st.2)
theorem dec1_len (l : List Int) : ∀ st : (Int → Int) × List Int, (l.foldl dec1 st).2.length ≤ st.2.length + l.length := by
  induction l with
  | nil => exact fun st => Nat.le_refl _
  | cons x r ih =>
    intro st
    rw [List.foldl_cons, List.length_cons]
    have := ih (dec1 st x)
    have h2 : (dec1 st x).2.length ≤ st.2.length + 1 := by
      unfold dec1
      dsimp only
      split
      · rw [List.length_append]; exact Nat.le_refl _
      · exact Nat.le_succ _
    lia
theorem done1_len {su : Int → List Int} {m : Nat} (hm : ∀ k, (su k).length ≤ m) (l : List Int) : ∀ st : (Int → Int) × List Int, (l.foldl (done1 su) st).2.length ≤ st.2.length + l.length * m := by
  induction l with
  | nil => exact fun st => Nat.le_add_right _ _
  | cons x r ih =>
    intro st
    rw [List.foldl_cons, List.length_cons]
    have := ih (done1 su st x)
    have h2 : (done1 su st x).2.length ≤ st.2.length + (su x).length := dec1_len _ _
    have := hm x
    rw [Nat.succ_mul]
    lia
section
variable {H : Hp} {n : Nat} {i R : Addr} {L : Lay} {S : PS} {p f k : Int} {Q : AV → Hp → Prop} {r : List Int} {rv : AV}
inductive A4d (H0 : Hp) (i R : Addr) (L : Lay) (S : PS) (r nodes : List Int) (p f : Int) (idx : Nat) (H : Hp) : Prop
  | mk (x : SR H i L { S with np := ((nodes.take idx).foldl (done1 S.su) (S.np, r)).1 } (rf R) p (f + idx)) (c : H R = some (.list (ivs ((nodes.take idx).foldl (done1 S.su) (S.np, r)).2))) (y : Fz H0 H L S R) : A4d H0 i R L S r nodes p f idx H
inductive A4s (H0 : Hp) (i R : Addr) (L : Lay) (S : PS) (st : (Int → Int) × List Int) (j : Int) (p f : Int) (c : Nat) (H : Hp) : Prop
  | mk (x : SR H i L { S with np := (((S.su j).take c).foldl dec1 (updI st.1 j (-2), st.2)).1 } (rf R) p f) (e : H R = some (.list (ivs (((S.su j).take c).foldl dec1 (updI st.1 j (-2), st.2)).2))) (y : Fz H0 H L S R) : A4s H0 i R L S st j p f c H
theorem A4s.suc {H0 H : Hp} {i R : Addr} {L : Lay} {S : PS} {st : (Int → Int) × List Int} {j : Int} {p f : Int} {c : Nat} (a : A4s H0 i R L S st j p f c H) (hj : j ∈ S.nodes) : H (L.sl j) = some (.list (ivs (S.su j))) := let ⟨x, _, _⟩ := a; x.suc j hj
theorem A4s.next {H0 H : Hp} {i R : Addr} {L : Lay} {S : PS} {st st' : (Int → Int) × List Int} {j : Int} {p f : Int} {c : Nat} (e : ((S.su j).take c).foldl dec1 (updI st.1 j (-2), st.2) = st') (x : SR H i L { S with np := st'.1 } (rf R) p f) (h : H R = some (.list (ivs st'.2))) (y : Fz H0 H L S R) : A4s H0 i R L S st j p f c H := by
  subst e
  exact ⟨x, h, y⟩
theorem A4d.next {H0 H : Hp} {i R : Addr} {L : Lay} {S : PS} {r nodes : List Int} {st' : (Int → Int) × List Int} {p f : Int} {c : Nat} (e : (nodes.take c).foldl (done1 S.su) (S.np, r) = st') (x : SR H i L { S with np := st'.1 } (rf R) p (f + c)) (h : H R = some (.list (ivs st'.2))) (y : Fz H0 H L S R) : A4d H0 i R L S r nodes p f c H := by
  subst e
  exact ⟨x, h, y⟩
theorem done_ok {nodes : List Int} {m : Nat} (h : SR H i L S (rf R) p f) (hr : H R = some (.list (ivs r))) (hn : ∀ k ∈ S.nodes, R ≠ L.sl k) (hm : ∀ k ∈ nodes, k ∈ S.nodes) (hs : ∀ k ∈ S.nodes, ∀ j ∈ S.su k, j ∈ S.nodes)
    (hl : nodes.length ≤ 100 ∧ r.length ≤ 100 ∧ m ≤ 100) (hb : ∀ j, (S.su j).length ≤ m) (hout : ∀ idx k, nodes[idx]? = some k → ((nodes.take idx).foldl (done1 S.su) (S.np, r)).1 k = -1)
    (q : ∀ H', SR H' i L { S with np := (nodes.foldl (done1 S.su) (S.np, r)).1 } (rf R) p (f + nodes.length) → H' R = some (.list (ivs (nodes.foldl (done1 S.su) (S.np, r)).2)) → Fz H H' L S R → Q .none H') :
    Body TT (n + 1) (fnOf 217) [("self", rf i), ("nodes", .tup (ivs nodes))] H Q := by
  with_reducible refine body_0 (us := [some (rf i), some (.tup (ivs nodes)), none, none, none, none, none, none]) (by decide +kernel) (by decide +kernel) (by kernel_rfl) ?_
  conv => arg 2; whnf
  have h1 := h.inst
  have h2 := h.att
  obtain ⟨ep, h3⟩ := h.dict
  walk_at "ws"
  refine x_forC (by decide +kernel) (i_plain (fun _ _ => rfl) ?_)
  walk_at "ws"
  refine e_sr sr_tup ⟨_, [some (rf i), some (.tup (ivs nodes)), some (rf L.D), none, none, none, none, none], rfl, A4d H i R L S r nodes p f, ⟨?_, hr, Fz.refl⟩, fun _ _ _ _ => trivial, ?_, ?_⟩
  · rw [show f + ((0 : Nat) : Int) = f from Int.add_zero f]
    exact h
  · rintro idx v H' hv ⟨x3, c3, y3⟩
    obtain ⟨j, hj, rfl⟩ := ivs_get hv
    have hjm : j ∈ S.nodes := hm j (List.mem_of_getElem? hj)
    have hlt : idx < nodes.length := (List.getElem?_eq_some_iff.mp hj).1
    have ho := hout idx j hj
    have hrl := done1_len (su := S.su) hb (nodes.take idx) (S.np, r)
    have htl : (nodes.take idx).length ≤ 100 := Nat.le_trans (by rw [List.length_take]; lia) hl.1
    have hmul : (nodes.take idx).length * m ≤ 100 * 100 := Nat.mul_le_mul htl hl.2.2
    have hst : (nodes.take (idx + 1)).foldl (done1 S.su) (S.np, r) = done1 S.su ((nodes.take idx).foldl (done1 S.su) (S.np, r)) j := by rw [take_succ hj, List.foldl_append]; rfl
    generalize (nodes.take idx).foldl (done1 S.su) (S.np, r) = st at *
    obtain ⟨ep', g0⟩ := x3.dict
    have g1 := x3.info j hjm
    have g2 := x3.suc j hjm
    have g3 := x3.inst
    have g4 := x3.att
    have ho' : ({ S with np := st.1 } : PS).np j = -1 := ho
    rw [ho'] at g1
    walk_at "ws"
    refine m_get g0 ?_
    rw [show (n2i L { S with np := st.1 }).lookup j = some (rf (L.ad j)) from n2i_in (by exact hjm)]
    show Ws _ _ (rf _) _ _
    walk_at "ws"
    have x4 := x3.setNp hjm (-2)
    have hne : R ≠ L.ad j := ne_of c3 g1 rfl
    have y4 := y3.trans (Fz.set (H := H') (a := L.ad j) (o := .slots 137 (slotL (L.sl j) (-2) j)) (.inl (.inr (.inr ⟨j, hjm, .inl rfl⟩))))
    have c4 : upd H' (L.ad j) (.slots 137 (slotL (L.sl j) (-2) j)) R = _ := up_ne' hne c3
    generalize upd H' (L.ad j) (.slots 137 (slotL (L.sl j) (-2) j)) = H4 at *
    have g5 := x4.info j hjm
    refine x_forC (by decide +kernel) (i_plain (fun _ _ => rfl) ?_)
    walk_at "ws"
    refine e_sr (sr_ref (x4.suc j hjm)) ⟨_, [some (rf i), some (.tup (ivs nodes)), some (rf L.D), some (.int j), some (rf (L.ad j)), some (.int (-1)), none, none], rfl, A4s H i R L S st j p (f + idx), ⟨x4, c4, y4⟩, fun c H5 hI ns => hI.suc hjm, ?_, ?_⟩
    · rintro c v H5 hv ⟨x5, c5, y5⟩
      obtain ⟨x, hx, rfl⟩ := ivs_get hv
      have hxm : x ∈ S.nodes := hs j hjm _ (List.mem_of_getElem? hx)
      have hrl2 := dec1_len ((S.su j).take c) (updI st.1 j (-2), st.2)
      have htl2 : ((S.su j).take c).length ≤ (S.su j).length := by rw [List.length_take]; lia
      have hbj := hb j
      have hs2 : ((S.su j).take (c + 1)).foldl dec1 (updI st.1 j (-2), st.2) = dec1 (((S.su j).take c).foldl dec1 (updI st.1 j (-2), st.2)) x := by rw [take_succ hx, List.foldl_append]; rfl
      generalize ((S.su j).take c).foldl dec1 (updI st.1 j (-2), st.2) = st2 at *
      obtain ⟨ep5, v0⟩ := x5.dict
      have v1 := x5.info x hxm
      have v3 := x5.inst
      have v4 := x5.att
      have hxn : ({ S with np := st2.1 } : PS).np x = st2.1 x := rfl
      rw [hxn] at v1
      walk_at "ws"
      refine f_dict v0 (n2i_in (by exact hxm)) ?_
      walk_at "ws"
      have x6 := x5.setNp hxm (st2.1 x - 1)
      have hRx : R ≠ L.ad x := ne_of c5 v1 rfl
      have v5 := x6.info x hxm
      have v6 := x6.inst
      have v7 := x6.att
      have hxn : ({ S with np := updI st2.1 x (st2.1 x - 1) } : PS).np x = st2.1 x - 1 := updI_same
      rw [show ({ ({ S with np := st2.1 } : PS) with np := updI ({ S with np := st2.1 } : PS).np x (st2.1 x - 1) } : PS).np x = st2.1 x - 1 from updI_same] at v5
      have y6 := y5.trans (Fz.set (H := H5) (a := L.ad x) (o := .slots 137 (slotL (L.sl x) (st2.1 x - 1) x)) (.inl (.inr (.inr ⟨x, hxm, .inl rfl⟩))))
      have c6 : upd H5 (L.ad x) (.slots 137 (slotL (L.sl x) (st2.1 x - 1) x)) R = _ := up_ne' hRx c5
      generalize upd H5 (L.ad x) (.slots 137 (slotL (L.sl x) (st2.1 x - 1) x)) = H6 at *
      have hRd : R ≠ L.d := ne_of c6 v7 rfl
      have hRi : R ≠ i := ne_of c6 v6 rfl
      walk_at "ws"
      refine ⟨fun e => ?_, fun e => ?_⟩
      · have e' := of_decide_eq_true e
        walk_at "ws"
        refine v_append c6 (by rw [ivs_len]; have : (S.np, r).2.length = r.length := rfl; have : ((updI st.1 j (-2), st.2) : (Int → Int) × List Int).2.length = st.2.length := rfl; walk_at "lm") ?_
        walk_at "ws"
        have hno : ¬ own L { S with np := updI st2.1 x (st2.1 x - 1) } R := x6.notOwn_list c6 hn
        have hd : dec1 st2 x = (updI st2.1 x (st2.1 x - 1), st2.2 ++ [x]) := by unfold dec1; rw [if_pos e']
        refine ⟨_, _, rfl, rfl, A4s.next (hs2.trans hd) (x6.other hRi hno) ?_ (y6.trans (Fz.set (.inr rfl)))⟩
        show _ = some (AObj.list (List.map .int (st2.2 ++ [x])))
        rw [List.map_append]
        exact upd_same
      · have e' := of_decide_eq_false e
        walk_at "ws"
        have hd : dec1 st2 x = (updI st2.1 x (st2.1 x - 1), st2.2) := by unfold dec1; rw [if_neg e']
        exact ⟨_, _, rfl, rfl, A4s.next (hs2.trans hd) x6 c6 y6⟩
    · rintro H5 ⟨x5, c5, y5⟩
      rw [ivs_len, List.take_length] at x5 c5
      have v3 := x5.inst
      have v4 := x5.att
      have hRd : R ≠ L.d := ne_of c5 v4 rfl
      walk_at "ws"
      refine ⟨_, _, rfl, rfl, A4d.next hst ?_ (up_ne' hRd c5) (y5.trans (Fz.set (.inl (.inl rfl))))⟩
      have := x5.setAtt (rv' := rf R) (p' := p) (f' := f + idx + 1)
      rw [show f + ((idx + 1 : Nat) : Int) = f + idx + 1 by lia]
      exact this
  · rintro H' ⟨x3, c3, y3⟩
    rw [ivs_len, List.take_length] at x3 c3
    walk_at "ws"
    exact ⟨_, fun _ _ z => z, q _ x3 c3 y3⟩
end
end
section
open PySem PySem.W PyProof.Rows
inductive Topo (su : Int → List Int) : List Int → Prop
  | nil : Topo su []
  | cons {u : Int} {b : List Int} (h : ∀ j ∈ su u, j ∈ b) (hn : u ∉ b) (t : Topo su b) : Topo su (u :: b)
noncomputable def Cyc (S : PS) : Prop := ∃ C : List Int, C ≠ [] ∧ (∀ x ∈ C, x ∈ S.nodes) ∧ ∀ x ∈ C, ∃ y ∈ C, x ∈ S.su y
inductive Lk (su : Int → List Int) (fin : List Int) : List (Int × Nat) → Int → Prop
  | nil {v : Int} : Lk su fin [] v
  | cons {k v : Int} {pos : Nat} {r : List (Int × Nat)} (h1 : 0 < pos) (h2 : (su k)[pos - 1]? = some v) (h3 : ∀ y ∈ (su k).take (pos - 1), y ∈ fin) (t : Lk su fin r k) : Lk su fin ((k, pos) :: r) v
theorem Lk.mono {su : Int → List Int} {fin fin' : List Int} (h : ∀ x ∈ fin, x ∈ fin') {r : List (Int × Nat)} {v : Int} (k : Lk su fin r v) : Lk su fin' r v := by
  induction k with
  | nil => exact .nil
  | cons h1 h2 h3 _ ih => exact .cons h1 h2 (fun y hy => h y (h3 y hy)) ih
theorem Lk.ring {su : Int → List Int} {fin : List Int} {r : List (Int × Nat)} {v w : Int} (t : Lk su fin r v) : w ∈ r.map (·.1) → ∃ C : List Int, (∀ x ∈ C, x ∈ r.map (·.1)) ∧ w ∈ C ∧ (∀ x ∈ C, x = w ∨ ∃ y ∈ C, x ∈ su y) ∧ ∃ y ∈ C, v ∈ su y := by
  induction t with
  | nil => exact nofun
  | @cons k v m r h1 h2 h3 t ih =>
    intro h
    have hv : v ∈ su k := List.mem_of_getElem? h2
    by_cases e : w = k
    · subst e
      exact ⟨[w], fun x hx => by rw [List.mem_singleton.mp hx]; exact List.mem_cons_self .., List.mem_singleton.mpr rfl, fun x hx => .inl (List.mem_singleton.mp hx), w, List.mem_singleton.mpr rfl, hv⟩
    · have hw : w ∈ r.map (·.1) := by
        rcases List.mem_cons.mp h with h | h
        · exact absurd h e
        · exact h
      obtain ⟨C, c1, c2, c3, y, hy, c4⟩ := ih hw
      refine ⟨k :: C, fun x hx => ?_, List.mem_cons_of_mem _ c2, fun x hx => ?_, k, List.mem_cons_self .., hv⟩
      · rcases List.mem_cons.mp hx with rfl | hx
        · exact List.mem_cons_self ..
        · exact List.mem_cons_of_mem _ (c1 x hx)
      · rcases List.mem_cons.mp hx with rfl | hx
        · exact .inr ⟨y, List.mem_cons_of_mem _ hy, c4⟩
        · rcases c3 x hx with h | ⟨z, hz, h⟩
          · exact .inl h
          · exact .inr ⟨z, List.mem_cons_of_mem _ hz, h⟩
structure DI (S : PS) (rs : List (Int × Nat)) (seen fin : List Int) : Prop where
  topo : Topo S.su fin
  seen_iff : ∀ x, x ∈ seen ↔ x ∈ fin ∨ x ∈ rs.map (·.1)
  nd : (rs.map (·.1)).Nodup
  dis : ∀ x ∈ rs.map (·.1), x ∉ fin
  mem : ∀ x ∈ rs.map (·.1), x ∈ S.nodes
  snd : seen.Nodup
  smem : ∀ x ∈ seen, x ∈ S.nodes
noncomputable def rem (S : PS) (seen : List Int) (rs : List (Int × Nat)) : Nat := ((S.nodes.filter fun k => !seen.contains k).map fun k => (S.su k).length).sum + (rs.map fun e => (S.su e.1).length - e.2).sum
section
variable {S : PS} {rs : List (Int × Nat)} {seen fin : List Int} {v k : Int} {pos : Nat}
theorem DI.cyc (D : DI S rs seen fin) (l : Lk S.su fin rs v) (hv : v ∈ rs.map (·.1)) : Cyc S := by
  obtain ⟨C, c1, c2, c3, c4⟩ := l.ring hv
  refine ⟨C, fun z => (by rw [z] at c2; cases c2), fun x hx => D.mem x (c1 x hx), fun x hx => ?_⟩
  rcases c3 x hx with rfl | h
  · exact c4
  · exact h
theorem DI.push (D : DI S rs seen fin) (hv : v ∉ seen) (hm : v ∈ S.nodes) : DI S ((v, 0) :: rs) (v :: seen) fin := by
  have h1 : v ∉ fin := fun z => hv ((D.seen_iff v).mpr (.inl z))
  have h2 : v ∉ rs.map (·.1) := fun z => hv ((D.seen_iff v).mpr (.inr z))
  refine ⟨D.topo, fun x => ?_, List.nodup_cons.mpr ⟨h2, D.nd⟩, fun x hx => ?_, fun x hx => ?_, List.nodup_cons.mpr ⟨hv, D.snd⟩, fun x hx => (List.mem_cons.mp hx).elim (fun z => z ▸ hm) (D.smem x)⟩
  · rw [List.mem_cons, D.seen_iff, List.map_cons, List.mem_cons]
    constructor
    · rintro (h | h | h)
      · exact .inr (.inl h)
      · exact .inl h
      · exact .inr (.inr h)
    · rintro (h | h | h)
      · exact .inr (.inl h)
      · exact .inl h
      · exact .inr (.inr h)
  · rcases List.mem_cons.mp hx with rfl | hx
    · exact h1
    · exact D.dis x hx
  · rcases List.mem_cons.mp hx with rfl | hx
    · exact hm
    · exact D.mem x hx
theorem DI.adv (D : DI S ((k, pos) :: rs) seen fin) : DI S ((k, pos + 1) :: rs) seen fin := ⟨D.topo, D.seen_iff, D.nd, D.dis, D.mem, D.snd, D.smem⟩
theorem DI.pop (D : DI S ((k, pos) :: rs) seen fin) (h : ∀ j ∈ S.su k, j ∈ fin) : DI S rs seen (k :: fin) := by
  have hk : k ∉ fin := D.dis k (List.mem_cons_self ..)
  have hn := List.nodup_cons.mp D.nd
  refine ⟨.cons h hk D.topo, fun x => ?_, hn.2, fun x hx z => ?_, fun x hx => D.mem x (List.mem_cons_of_mem _ hx), D.snd, D.smem⟩
  · rw [D.seen_iff, List.map_cons, List.mem_cons, List.mem_cons]
    constructor
    · rintro (h | h | h)
      · exact .inl (.inr h)
      · exact .inl (.inl h)
      · exact .inr h
    · rintro ((h | h) | h)
      · exact .inr (.inl h)
      · exact .inl h
      · exact .inr (.inr h)
  · rcases List.mem_cons.mp z with rfl | z
    · exact hn.1 hx
    · exact D.dis x (List.mem_cons_of_mem _ hx) z
theorem filt_sum (g : Int → Nat) (hv : v ∉ seen) : ∀ (ns : List Int), ns.Nodup → ((ns.filter fun k => !(v :: seen).contains k).map g).sum + (if v ∈ ns then g v else 0) = ((ns.filter fun k => !seen.contains k).map g).sum
  | [], _ => rfl
  | a :: r, h => by
    have hn := List.nodup_cons.mp h
    have ih := filt_sum g hv r hn.2
    by_cases e : a = v
    · subst e
      have h0 : ¬ a ∈ r := hn.1
      rw [if_neg h0] at ih
      rw [List.filter_cons_of_neg (by simp), List.filter_cons_of_pos (by simpa using hv), if_pos (List.mem_cons_self ..), List.map_cons, List.sum_cons]
      lia
    · have e' : ¬ v = a := fun z => e z.symm
      have h3 : (v :: seen).contains a = seen.contains a := by simp [e]
      rw [List.filter_cons, List.filter_cons, h3]
      by_cases hs : (!seen.contains a) = true
      · rw [if_pos hs, if_pos hs, List.map_cons, List.map_cons, List.sum_cons, List.sum_cons]
        have : (if v ∈ a :: r then g v else 0) = if v ∈ r then g v else 0 := by simp [e']
        rw [this]
        lia
      · rw [if_neg hs, if_neg hs]
        have : (if v ∈ a :: r then g v else 0) = if v ∈ r then g v else 0 := by simp [e']
        rw [this]
        exact ih
theorem rem_push (hn : S.nodes.Nodup) (hv : v ∉ seen) (hm : v ∈ S.nodes) : rem S (v :: seen) ((v, 0) :: rs) = rem S seen rs := by
  have := filt_sum (seen := seen) (fun k => (S.su k).length) hv S.nodes hn
  rw [if_pos hm] at this
  unfold rem
  rw [List.map_cons, List.sum_cons]
  dsimp only
  lia
theorem rem_adv (h : pos < (S.su k).length) : rem S seen ((k, pos + 1) :: rs) + 1 = rem S seen ((k, pos) :: rs) := by
  unfold rem
  rw [List.map_cons, List.sum_cons, List.map_cons, List.sum_cons]
  dsimp only
  lia
theorem rem_pop (h : (S.su k).length ≤ pos) : rem S seen rs = rem S seen ((k, pos) :: rs) := by
  unfold rem
  rw [List.map_cons, List.sum_cons]
  dsimp only
  lia
end
end
section
open PySem PySem.W PyProof.Rows
theorem seq_neg {N : Nat} (h : 0 < N) (hl : N ≤ lim) : seqIdx (-1) N = some (N - 1) := by
  unfold seqIdx
  have : (lim : Nat) = 1000000 := rfl
  rw [if_pos ⟨by lia, by lia⟩, if_neg (by lia), if_pos (by lia)]
  congr 1
  lia
theorem fm_range {α : Type} (xs : List α) (a : Nat) : ∀ m : Nat, a + m ≤ xs.length → ((List.range m).map (a + ·)).filterMap (xs[·]?) = (xs.drop a).take m
  | 0, _ => by simp
  | m + 1, h => by
    rw [List.range_succ, List.map_append, List.filterMap_append, fm_range xs a m (by lia)]
    have e : xs[a + m]? = some xs[a + m] := List.getElem?_eq_getElem (by lia)
    simp only [List.map_cons, List.map_nil, List.filterMap_cons, List.filterMap_nil, e]
    rw [List.take_succ, List.getElem?_drop, e]
    rfl
theorem clip_le (n : Nat) (i : Int) : clipAt n i ≤ n := by unfold clipAt; lia
theorem aslice_eq (xs : List AV) (lo hi : Option Int) : aslice xs lo hi = (xs.drop (lo.elim 0 (clipAt xs.length))).take (hi.elim xs.length (clipAt xs.length) - lo.elim 0 (clipAt xs.length)) := by
  unfold aslice
  rw [sliceBounds_plain]
  dsimp only
  rw [sliceRange_one]
  refine fm_range xs _ _ ?_
  have h1 : lo.elim 0 (clipAt xs.length) ≤ xs.length := by
    cases lo
    · exact Nat.zero_le _
    · exact clip_le _ _
  have h2 : hi.elim xs.length (clipAt xs.length) ≤ xs.length := by
    cases hi
    · exact Nat.le_refl _
    · exact clip_le _ _
  lia
theorem aslice_len (xs : List AV) (lo hi : Option Int) : (aslice xs lo hi).length ≤ xs.length := by
  rw [aslice_eq, List.length_take, List.length_drop]
  lia
theorem aslice_to (xs : List AV) (b : Nat) : aslice xs none (some (b : Int)) = xs.take b := by
  rw [aslice_eq]
  show (xs.drop 0).take (clipAt xs.length b - 0) = _
  rw [clipAt_nat, List.drop_zero, Nat.sub_zero]
  by_cases h : b ≤ xs.length
  · rw [Nat.min_eq_left h]
  · rw [Nat.min_eq_right (by lia), List.take_length, List.take_of_length_le (by lia)]
theorem aslice_from (xs : List AV) (a : Nat) : aslice xs (some (a : Int)) none = xs.drop a := by
  rw [aslice_eq]
  show (xs.drop (clipAt xs.length a)).take (xs.length - clipAt xs.length a) = _
  rw [clipAt_nat]
  by_cases h : a ≤ xs.length
  · rw [Nat.min_eq_left h, List.take_of_length_le (by rw [List.length_drop]; lia)]
  · rw [Nat.min_eq_right (by lia), Nat.sub_self, List.take_zero, List.drop_eq_nil_of_le (by lia)]
section
variable {T : Top0} {n : Nat} {sc : Scope} {cells : List (Str × Nat)} {lam : Bool} {H : Hp} {us : List (Option AV)} {x y : Str} {v : AV} {vs : List AV} {l d : Addr} {i : Int} {ss : List Stmt} {Qs : St → Prop} {p p1 p2 p3 p4 : Pos}
theorem hv_pop {apos : Pos} (k : Nat) (h : plc sc x k = true) (hv : us[k]? = some (some (rf l))) (hl : (apos.endLine == p.line) = true) (hH : H l = some (.list vs)) (hw : vs.getLast? = some v) (hz : vs.length ≤ lim) (q : Whs ⟨T, n, sc, cells, lam⟩ ss (V ⟨T, n, sc, cells, lam⟩ (upd H l (.list vs.dropLast)) us) Qs) :
    Whs ⟨T, n, sc, cells, lam⟩ (.Expr (.Call (.Attribute (.Name x p1) "pop" apos) [] [] p) p2 :: ss) (V ⟨T, n, sc, cells, lam⟩ H us) Qs := hs_pop hl (plc_K (T := T) (cells := cells) (lam := lam) h) (plc_get h hv) hH hw hz q
theorem hv_del {es : List (Int × AV)} {ep : Nat} {apos : Pos} (j k : Nat) (hy : plc sc y j = true) (hyv : us[j]? = some (some (rf d))) (h : plc sc x k = true) (hv : us[k]? = some (some (rf l))) (hl : (apos.endLine == p.line) = true) (hd : H d = some (.dictI es ep)) (hH : H l = some (.list vs))
    (hw : vs.getLast? = some (.int i)) (hz : vs.length ≤ lim) (hin : i ∈ es.map (·.1)) (hes : es.length ≤ lim) (q : Whs ⟨T, n, sc, cells, lam⟩ ss (V ⟨T, n, sc, cells, lam⟩ (upd (upd H l (.list vs.dropLast)) d (.dictI (kvDel i es) (ep + 1))) us) Qs) :
    Whs ⟨T, n, sc, cells, lam⟩ (.Delete [.Subscript (.Name y p1) (.Call (.Attribute (.Name x p2) "pop" apos) [] [] p) p3] p4 :: ss) (V ⟨T, n, sc, cells, lam⟩ H us) Qs :=
  hs_del hl (plc_K (T := T) (cells := cells) (lam := lam) hy) (plc_get hy hyv) hd (plc_K (T := T) (cells := cells) (lam := lam) h) (plc_get h hv) hH hw hz hin hes q
end
theorem v_addN {fs : FS} {H : Hp} {us : List (Option AV)} {l : Addr} {j : Int} {es : List Int} {Q : AV → St → Prop} (h : H l = some (.set es)) (hl : es.length < 1000) (hn : j ∉ es) (q : Q .none (V fs (upd H l (.set (j :: es))) us)) : Ac fs (.con (.builtin "set.add")) [rf l, .int j] (V fs H us) Q := by
  refine v_add h hl ?_
  rw [if_neg (by rw [List.contains_iff_mem]; exact hn)]; exact q
noncomputable abbrev NX := "list_iterator.__next__"
noncomputable def stL (rs : List (Int × Nat)) : List AV := rs.reverse.map fun e => .int e.1
noncomputable def itL (ri : List Addr) : List AV := ri.reverse.map fun a => .bm NX a
noncomputable def nsE : List (Int × Nat) → List (Int × AV)
  | [] => []
  | e :: r => nsE r ++ [(e.1, .int r.length)]
theorem stL_cons {k : Int} {pos : Nat} {r : List (Int × Nat)} : stL ((k, pos) :: r) = stL r ++ [.int k] := by unfold stL; rw [List.reverse_cons, List.map_append]; rfl
theorem itL_cons {a : Addr} {r : List Addr} : itL (a :: r) = itL r ++ [.bm NX a] := by unfold itL; rw [List.reverse_cons, List.map_append]; rfl
theorem stL_len {r : List (Int × Nat)} : (stL r).length = r.length := by unfold stL; rw [List.length_map, List.length_reverse]
theorem itL_len {r : List Addr} : (itL r).length = r.length := by unfold itL; rw [List.length_map, List.length_reverse]
inductive Its (H0 H : Hp) (L : Lay) : List (Int × Nat) → List Addr → Prop
  | nil : Its H0 H L [] []
  | cons {k : Int} {pos : Nat} {a : Addr} {r : List (Int × Nat)} {ri : List Addr} (h : H a = some (.iter (L.sl k) pos)) (h0 : H0 a = none) (hn : a ∉ ri) (t : Its H0 H L r ri) : Its H0 H L ((k, pos) :: r) (a :: ri)
section
variable {H0 H H' : Hp} {L : Lay}
theorem Its.mono {rs : List (Int × Nat)} {ri : List Addr} (i : Its H0 H L rs ri) : (∀ a l j, a ∈ ri → H a = some (.iter l j) → H' a = some (.iter l j)) → Its H0 H' L rs ri := by
  induction i with
  | nil => exact fun _ => .nil
  | cons h h0 hn _ ih => exact fun m => .cons (m _ _ _ List.mem_cons_self h) h0 hn (ih fun a l j ha => m a l j (List.mem_cons_of_mem _ ha))
theorem Its.at {rs : List (Int × Nat)} {ri : List Addr} (i : Its H0 H L rs ri) : ∀ a ∈ ri, ∃ l j, H a = some (.iter l j) := by
  induction i with
  | nil => exact fun _ h => (List.not_mem_nil h).elim
  | cons h _ hn _ ih => exact fun a ha => (List.mem_cons.mp ha).elim (fun e => e ▸ ⟨_, _, h⟩) (ih a)
theorem Its.len {rs : List (Int × Nat)} {ri : List Addr} (i : Its H0 H L rs ri) : ri.length = rs.length := by
  induction i with
  | nil => rfl
  | cons _ _ _ _ ih => exact congrArg (· + 1) ih
end
theorem nsE_keys : ∀ (rs : List (Int × Nat)) (v : Int), ((nsE rs).any (·.1 == v)) = decide (v ∈ rs.map (·.1))
  | [], v => rfl
  | e :: r, v => by
    unfold nsE
    rw [List.any_append, nsE_keys r v, List.any_cons, List.any_nil, Bool.or_false]
    by_cases h : e.1 = v
    · simp [h]
    · have h' : ¬ v = e.1 := fun z => h z.symm
      simp [h, h', beq_eq_false_iff_ne.mpr h]
theorem lookup_app {es es' : List (Int × AV)} (k : Int) : (es ++ es').lookup k = (es.lookup k).or (es'.lookup k) := by
  induction es with
  | nil => rfl
  | cons e r ih =>
    rw [List.cons_append, List.lookup_cons, List.lookup_cons, ih]
    cases k == e.1 <;> rfl
theorem any_none : ∀ {es : List (Int × AV)} {v : Int}, es.any (·.1 == v) = false → es.lookup v = none
  | [], _, _ => rfl
  | a :: t, v, h => by
    rw [List.any_cons] at h
    obtain ⟨h1, h4⟩ := Bool.or_eq_false_iff.mp h
    rw [List.lookup_cons, show (v == a.1) = false by rw [beq_eq_false_iff_ne] at h1 ⊢; exact Ne.symm h1]
    exact any_none h4
theorem nsE_lookup : ∀ (rs : List (Int × Nat)) (v : Int), v ∈ rs.map (·.1) → ∃ j : Nat, (nsE rs).lookup v = some (.int j) ∧ j ≤ rs.length
  | [], v, h => nomatch h
  | e :: r, v, h => by
    unfold nsE
    rw [lookup_app]
    by_cases h' : v ∈ r.map (·.1)
    · obtain ⟨j, e1, e2⟩ := nsE_lookup r v h'
      rw [e1]
      exact ⟨j, rfl, Nat.le_succ_of_le e2⟩
    · have h3 : (nsE r).lookup v = none := any_none ((nsE_keys r v).trans (decide_eq_false h'))
      have h4 : v = e.1 := (List.mem_cons.mp h).resolve_right h'
      rw [h3, h4]
      refine ⟨r.length, ?_, Nat.le_succ _⟩
      show List.lookup e.1 [(e.1, AV.int r.length)] = _
      rw [List.lookup_cons, beq_self_eq_true]
theorem put_new {v : Int} {x : AV} : ∀ {es : List (Int × AV)}, es.any (·.1 == v) = false → gPut v x es = es ++ [(v, x)]
  | [], _ => rfl
  | a :: t, h => by
    rw [List.any_cons] at h
    obtain ⟨h1, h4⟩ := Bool.or_eq_false_iff.mp h
    unfold gPut
    rw [if_neg (beq_eq_false_iff_ne.mp h1), put_new h4]; rfl
theorem nsE_del (r : List (Int × Nat)) (k : Int) (pos : Nat) (h : k ∉ r.map (·.1)) : kvDel k (nsE ((k, pos) :: r)) = nsE r := by
  have := nsE_keys r k
  rw [decide_eq_false h] at this
  show List.filter _ (nsE r ++ [(k, AV.int r.length)]) = _
  rw [List.filter_append, List.filter_cons_of_neg (by simp), List.filter_nil, List.append_nil, List.filter_eq_self]
  intro p hp
  have h1 := List.any_eq_false.mp this p hp
  simpa using h1
theorem nsE_len : ∀ rs : List (Int × Nat), (nsE rs).length = rs.length
  | [] => rfl
  | e :: r => by unfold nsE; rw [List.length_append, nsE_len r]; rfl
structure A4 where
  S : Addr
  I : Addr
  E : Addr
  D : Addr
structure FH (H0 : Hp) (A : A4) (L : Lay) (H : Hp) (rs : List (Int × Nat)) (ri : List Addr) (seen : List Int) : Prop where
  old : ∀ a o, H0 a = some o → H a = some o
  oS : H0 A.S = none
  oI : H0 A.I = none
  oE : H0 A.E = none
  oD : H0 A.D = none
  ne : A.S ≠ A.I
  st : H A.S = some (.list (stL rs))
  it : H A.I = some (.list (itL ri))
  se : H A.E = some (.set seen)
  ns : ∃ e, H A.D = some (.dictI (nsE rs) e)
  its : Its H0 H L rs ri
section
variable {H0 H : Hp} {A : A4} {L : Lay} {rs : List (Int × Nat)} {ri : List Addr} {seen : List Int} {v k : Int} {pos e : Nat} {a M : Addr}
theorem FH.push (h : FH H0 A L H rs ri seen) (hM : H M = none) (hv : v ∉ rs.map (·.1)) :
    FH H0 A L (upd (upd (upd (upd (upd H A.E (.set (v :: seen))) M (.iter (L.sl v) 0)) A.I (.list (itL ri ++ [.bm NX M]))) A.D (.dictI (gPut v (.int rs.length) (nsE rs)) e)) A.S (.list (stL rs ++ [.int v]))) ((v, 0) :: rs) (M :: ri) (v :: seen) := by
  obtain ⟨e', n1⟩ := h.ns
  have n2 := h.st
  have n3 := h.it
  have n4 := h.se
  have keep : ∀ {b o}, H b = some o → b ≠ A.S → b ≠ A.I → b ≠ A.E → b ≠ A.D → upd (upd (upd (upd (upd H A.E (.set (v :: seen))) M (.iter (L.sl v) 0)) A.I (.list (itL ri ++ [.bm NX M]))) A.D (.dictI (gPut v (.int rs.length) (nsE rs)) e)) A.S (.list (stL rs ++ [.int v])) b = some o := fun eb x1 x2 x3 x4 =>
    up_ne' x1 (up_ne' x4 (up_ne' x2 (up_ne' (ne_new eb hM) (up_ne' x3 eb))))
  have M0 : H0 M = none := by
    cases z : H0 M with
    | none => rfl
    | some o => exact nos (hM.symm.trans (h.old _ _ z))
  have iS : A.I ≠ A.S := Ne.symm h.ne
  have iD : A.I ≠ A.D := ne_of n3 n1 rfl
  have eS : A.E ≠ A.S := ne_of n4 n2 rfl
  have eI : A.E ≠ A.I := ne_of n4 n3 rfl
  have eD : A.E ≠ A.D := ne_of n4 n1 rfl
  have dS : A.D ≠ A.S := ne_of n1 n2 rfl
  have mM : ∀ {b o}, H b = some o → M ≠ b := fun eb => Ne.symm (ne_new eb hM)
  refine ⟨fun b o hb => keep (h.old b o hb) (ne_new hb h.oS) (ne_new hb h.oI) (ne_new hb h.oE) (ne_new hb h.oD), h.oS, h.oI, h.oE, h.oD, h.ne, ?_, ?_, up_ne' eS (up_ne' eD (up_ne' eI (up_ne' (ne_new n4 hM) upd_same))), ⟨e, ?_⟩,
    .cons (up_ne' (mM n2) (up_ne' (mM n1) (up_ne' (mM n3) upd_same))) M0 (fun z => ?_) (h.its.mono fun b l j hb eo => keep eo (ne_of eo n2 rfl) (ne_of eo n3 rfl) (ne_of eo n4 rfl) (ne_of eo n1 rfl))⟩
  · rw [stL_cons]; exact upd_same
  · rw [itL_cons]; exact up_ne' iS (up_ne' iD upd_same)
  · rw [show nsE ((v, 0) :: rs) = gPut v (.int rs.length) (nsE rs) from (put_new ((nsE_keys rs v).trans (decide_eq_false hv))).symm]
    exact up_ne' dS upd_same
  · obtain ⟨l, j, z⟩ := h.its.at M z
    exact nos (hM.symm.trans z)
theorem FH.adv (h : FH H0 A L H ((k, pos) :: rs) (a :: ri) seen) : FH H0 A L (upd H a (.iter (L.sl k) (pos + 1))) ((k, pos + 1) :: rs) (a :: ri) seen := by
  obtain ⟨e', n1⟩ := h.ns
  cases h.its with | cons g g0 hn t =>
  refine ⟨fun b o hb => up_ne' (ne_new hb g0) (h.old b o hb), h.oS, h.oI, h.oE, h.oD, h.ne, up_ne' (ne_of h.st g rfl) ?_, up_ne' (ne_of h.it g rfl) h.it, up_ne' (ne_of h.se g rfl) h.se, ⟨e', up_ne' (ne_of n1 g rfl) n1⟩,
    .cons upd_same g0 hn (t.mono fun b l j hb eo => up_ne' (fun z => hn (z ▸ hb)) eo)⟩
  rw [stL_cons]
  have := h.st
  rw [stL_cons] at this; exact this
theorem FH.pop (h : FH H0 A L H ((k, pos) :: rs) (a :: ri) seen) (hk : k ∉ rs.map (·.1)) :
    FH H0 A L (upd (upd (upd (upd H a .dead) A.S (.list (stL ((k, pos) :: rs)).dropLast)) A.D (.dictI (kvDel k (nsE ((k, pos) :: rs))) e)) A.I (.list (itL (a :: ri)).dropLast)) rs ri seen := by
  obtain ⟨e', n1⟩ := h.ns
  have n2 := h.st
  have n3 := h.it
  have n4 := h.se
  cases h.its with | cons g g0 hn t =>
  have keep : ∀ {b o}, H b = some o → b ≠ A.S → b ≠ A.I → b ≠ a → b ≠ A.D → upd (upd (upd (upd H a .dead) A.S (.list (stL ((k, pos) :: rs)).dropLast)) A.D (.dictI (kvDel k (nsE ((k, pos) :: rs))) e)) A.I (.list (itL (a :: ri)).dropLast) b = some o := fun eb x1 x2 x3 x4 =>
    up_ne' x2 (up_ne' x4 (up_ne' x1 (up_ne' x3 eb)))
  refine ⟨fun b o hb => keep (h.old b o hb) (ne_new hb h.oS) (ne_new hb h.oI) (ne_new hb g0) (ne_new hb h.oD), h.oS, h.oI, h.oE, h.oD, h.ne, ?_, ?_, keep n4 (ne_of n4 n2 rfl) (ne_of n4 n3 rfl) (ne_of n4 g rfl) (ne_of n4 n1 rfl), ⟨e, ?_⟩,
    t.mono fun b l j hb eo => keep eo (ne_of eo n2 rfl) (ne_of eo n3 rfl) (fun z => hn (z ▸ hb)) (ne_of eo n1 rfl)⟩
  · rw [stL_cons, List.dropLast_concat]
    exact up_ne' h.ne (up_ne' (ne_of n2 n1 rfl) upd_same)
  · rw [itL_cons, List.dropLast_concat]; exact upd_same
  · rw [nsE_del rs k pos hk]
    exact up_ne' (ne_of n1 n3 rfl) upd_same
end
end
section
open PySem PySem.W PyProof.Rows PySem.Builtin PySem.Builtin.Str
noncomputable def tx (l : List Nat) : Str := ⟨l.toArray⟩
theorem tx_len (l : List Nat) : (tx l).length = l.length := by unfold tx; exact List.size_toArray
theorem tx_cps (l : List Nat) : (tx l).cps.toList = l := rfl
theorem tx_app (a b : List Nat) : tx a ++ tx b = tx (a ++ b) := by
  show Str.mk (a.toArray ++ b.toArray) = Str.mk (a ++ b).toArray
  rw [List.append_toArray]
theorem tx_inj {a b : List Nat} : tx a = tx b ↔ a = b := by
  constructor
  · intro h
    have := congrArg (fun x : Str => x.cps.toList) h
    exact this
  · rintro rfl; rfl
theorem fm_rangeN (xs : List Nat) (a m : Nat) (h : a + m ≤ xs.length) : ((List.range m).map (a + ·)).filterMap (xs[·]?) = (xs.drop a).take m := fm_range xs a m h
theorem slice_tx (l : List Nat) (lo hi : Option Int) : Txt.slice (tx l) lo hi = tx ((l.drop (lo.elim 0 (clipAt l.length))).take (hi.elim l.length (clipAt l.length) - lo.elim 0 (clipAt l.length))) := by
  have e : strSliceIndices lo hi 1 l.length = (List.range (hi.elim l.length (clipAt l.length) - lo.elim 0 (clipAt l.length))).map (lo.elim 0 (clipAt l.length) + ·) := by
    rw [← sliceRange_one]
    unfold strSliceIndices
    cases lo <;> cases hi <;> simp [clipAt_cast]
  have h1 : lo.elim 0 (clipAt l.length) ≤ l.length := by
    cases lo
    · exact Nat.zero_le _
    · exact clip_le _ _
  have h2 : hi.elim l.length (clipAt l.length) ≤ l.length := by
    cases hi
    · exact Nat.le_refl _
    · exact clip_le _ _
  have e2 : (strSliceIndices lo hi 1 (tx l).length).filterMap ((tx l).cps[·]?) = (l.drop (lo.elim 0 (clipAt l.length))).take (hi.elim l.length (clipAt l.length) - lo.elim 0 (clipAt l.length)) := by
    rw [tx_len, e, show (fun x => (tx l).cps[x]?) = (l[·]?) from funext fun x => by unfold tx; simp]
    exact fm_rangeN l (lo.elim 0 (clipAt l.length)) (hi.elim l.length (clipAt l.length) - lo.elim 0 (clipAt l.length)) (by lia)
  unfold Txt.slice
  split
  · rename_i h
    have h3 : (strSliceIndices lo hi 1 (tx l).length).length = (tx l).length := by simpa using h
    rw [tx_len, e, List.length_map, List.length_range] at h3
    rw [h3, show lo.elim 0 (clipAt l.length) = 0 by lia, List.drop_zero, List.take_length]
  · rw [e2]; rfl
theorem slice_to (l : List Nat) (b : Nat) : Txt.slice (tx l) none (some (b : Int)) = tx (l.take b) := by
  rw [slice_tx]
  show tx ((l.drop 0).take (clipAt l.length b - 0)) = _
  rw [clipAt_nat, List.drop_zero, Nat.sub_zero]
  by_cases h : b ≤ l.length
  · rw [Nat.min_eq_left h]
  · rw [Nat.min_eq_right (by lia), List.take_length, List.take_of_length_le (by lia)]
theorem slice_from (l : List Nat) (a : Nat) : Txt.slice (tx l) (some (a : Int)) none = tx (l.drop a) := by
  rw [slice_tx]
  show tx ((l.drop (clipAt l.length a)).take (l.length - clipAt l.length a)) = _
  rw [clipAt_nat]
  by_cases h : a ≤ l.length
  · rw [Nat.min_eq_left h, List.take_of_length_le (by rw [List.length_drop]; lia)]
  · rw [Nat.min_eq_right (by lia), Nat.sub_self, List.take_zero, List.drop_eq_nil_of_le (by lia)]
theorem extract_tx (l : List Nat) (a b : Nat) : (⟨(tx l).cps.extract a b⟩ : Str) = tx ((l.drop a).take (b - a)) := by
  unfold tx
  congr 1
  simp [List.extract]
theorem lstrip_tx {l : List Nat} {c : Nat} (h : Unicode.isSpace c = false) : Txt.lstrip (tx (c :: l)) = tx (c :: l) := by
  unfold Txt.lstrip Txt.stripBy
  rw [if_pos]
  unfold stripSame stripLo stripHi
  rw [tx_cps, List.takeWhile_cons, h]
  simp
theorem starts_tx {l : List Nat} {c d : Nat} : Txt.startswith (tx (c :: l)) (tx [d]) = (c == d) := by
  unfold Txt.startswith subAt
  rw [tx_len, tx_len]
  show (decide (0 + 1 ≤ l.length + 1) && (((c :: l).toArray.extract 0 (0 + 1)) == ([d] : List Nat).toArray)) = _
  have e : (c :: l).toArray.extract 0 (0 + 1) = ([c] : List Nat).toArray := by simp [List.extract]
  rw [e, decide_eq_true (by lia), Bool.true_and]
  by_cases h : c = d
  · subst h; simp
  · rw [beq_eq_false_iff_ne.mpr h]
    exact beq_eq_false_iff_ne.mpr fun z => h (by simpa using z)
noncomputable def glueL (g : List Nat) : List (List Nat) → List Nat
  | [] => []
  | [x] => x
  | x :: y :: r => x ++ g ++ glueL g (y :: r)
theorem foldl_glue (g : Str) : ∀ (ps : List Str) (a : Array Nat) (b : List Nat), a.toList = b → (ps.foldl (fun acc p => acc ++ g.cps ++ p.cps) a).toList = b ++ (ps.map fun p => g.cps.toList ++ p.cps.toList).flatten
  | [], a, b, h => by simp [h]
  | p :: r, a, b, h => by
    rw [List.foldl_cons, foldl_glue g r _ (b ++ g.cps.toList ++ p.cps.toList) (by simp [h]), List.map_cons, List.flatten_cons]
    simp
theorem glueL_cons (g : List Nat) : ∀ (x : List Nat) (r : List (List Nat)), glueL g (x :: r) = x ++ (r.map fun p => g ++ p).flatten
  | x, [] => by simp [glueL]
  | x, y :: r => by
    unfold glueL
    rw [glueL_cons g y r, List.map_cons, List.flatten_cons]
    simp
theorem join_tx (g : List Nat) (ps : List (List Nat)) : Txt.join (tx g) (ps.map tx) = tx (glueL g ps) := by
  cases ps with
  | nil => rfl
  | cons x r =>
    rw [glueL_cons]
    show glued (tx g) (tx x :: r.map tx) = _
    unfold glued
    have := foldl_glue (tx g) (r.map tx) (tx x).cps x rfl
    rw [List.map_map] at this
    show Str.mk _ = Str.mk _
    congr 1
    apply Array.ext'
    rw [List.toList_toArray]
    exact this
noncomputable abbrev dl (H : Hp) (a : Addr) : Hp := fun b => if b = a then none else H b
section
variable {H H0 : Hp} {a b : Addr} {o : AObj}
theorem dl_ne (h : b ≠ a) (e : H b = some o) : dl H a b = some o := (if_neg h).trans e
theorem dl_sub (h : SubH H0 H) (n : H0 a = none) : SubH H0 (dl H a) := fun b ob e => dl_ne (ne_new e n) (h b ob e)
theorem up_sub (h : SubH H0 H) (n : H0 a = none) : SubH H0 (upd H a o) := fun b ob e => up_ne' (ne_new e n) (h b ob e)
end
theorem w_frzL {T : Top0} {n : Nat} {sc : Scope} {cells : List (Str × Nat)} {lam : Bool} {H : Hp} {us : List (Option AV)} {x : Str} {p : Pos} {P : Addr} {vs : List AV} {Q : AV → St → Prop} (k : Nat) (h : plc sc x k = true) (hv : us[k]? = some (some (rf P))) (hP : H P = some (.list vs))
    (q : Q (.lst vs) (V ⟨T, n, sc, cells, lam⟩ (dl H P) us)) : We ⟨T, n, sc, cells, lam⟩ (.Name x p) (V ⟨T, n, sc, cells, lam⟩ H us) Q := w_frz (w_loc k h hv ⟨P, vs, rfl, hP, q⟩)
theorem Ac.frz2 {fs : FS} {σ : St} {fv u : AV} {a : Addr} {ws : List AV} {Q : AV → St → Prop} (e : σ.H a = some (.list ws)) (h : Ac fs fv [u, .lst ws] (σ.del a) Q) : Ac fs fv [u, rf a] σ Q := fun Φ P g xs K E F ok r rs k => rs.e2 fun x y r1 r2 => by
  obtain ⟨c, d⟩ := ok.frz e
  obtain rfl : y = .ref a := r2.inv
  exact h Φ (P.fr a) g _ K E F c (r.le fr_le) (.cons (r1.le fr_le) (.cons d .nil)) fun P' z v σ' l => k P' z v σ' (fr_le.trans l)
theorem v_appendF {fs : FS} {H : Hp} {us : List (Option AV)} {l a : Addr} {vs ws : List AV} {Q : AV → St → Prop} (h : H l = some (.list vs)) (e : H a = some (.list ws)) (n : l ≠ a) (hl : vs.length < lim) (q : Q .none (V fs (upd (dl H a) l (.list (vs ++ [.lst ws]))) us)) :
    Ac fs (.con (.builtin "list.append")) [rf l, rf a] (V fs H us) Q := Ac.frz2 e (v_append (H := dl H a) (dl_ne n h) hl q)
section
variable {fs : FS} {σ : St} {l : List Nat} {a b e : Nat} {x y : Str} {R : AV → Prop} {Q : AV → St → Prop} {p : Nat × Nat}
theorem f_slTo (h : l.length ≤ lim) (q : R (.str (tx (l.take b)))) : ∃ v, Sl (.str (tx l)) none (some (b : Int)) σ v ∧ R v := ⟨_, sl_str (by rw [tx_len]; exact h), by rw [slice_to]; exact q⟩
theorem f_slFrom (h : l.length ≤ lim) (q : R (.str (tx (l.drop a)))) : ∃ v, Sl (.str (tx l)) (some (a : Int)) none σ v ∧ R v := ⟨_, sl_str (by rw [tx_len]; exact h), by rw [slice_from]; exact q⟩
theorem f_addT {l' : List Nat} (h : l.length + l'.length ≤ lim) (q : R (.str (tx (l ++ l')))) : ∃ v, Bop .Add (.str (tx l)) (.str (tx l')) σ v ∧ R v := ⟨_, o_addS (by rw [tx_len, tx_len]; exact h), by rw [tx_app]; exact q⟩
theorem mt_group (h : l.length ≤ lim) (q : Q (.str (tx ((l.drop a).take (b - a)))) σ) : Ac fs (.con (.builtin "re.Match.group")) [.mat (tx l) [p, (a, b)], .int 1] σ Q := m_group (by rw [tx_len]; exact h) (by rw [extract_tx]; exact q)
theorem re_tok1 {t : Nat} (hl : l.length ≤ lim) (ha : a = (l.takeWhile Unicode.isSpace).length) (ht : t = ((l.drop a).takeWhile fun c => !isSep c).length) (h0 : 0 < t) (q : Q (.mat (tx l) [(0, a + t), (a, a + t)]) σ) : Ac fs (.con (.builtin "re.Pattern.search")) [.con (.ref 55), .str (tx l)] σ Q :=
  m_found p55_at (by rw [tx_len]; exact hl) (tok_1 (by rw [show (tx l).cps.size = l.length from tx_len l]; exact hl) ha ht h0) q
theorem re_tok0 (hl : l.length ≤ lim) (ha : (l.takeWhile Unicode.isSpace).length = 0) (ht : (l.takeWhile fun c => !isSep c).length = 0) (q : Q .none σ) : Ac fs (.con (.builtin "re.Pattern.search")) [.con (.ref 55), .str (tx l)] σ Q :=
  m_fail p55_at (by rw [tx_len]; exact hl) (tok_0 (by rw [show (tx l).cps.size = l.length from tx_len l]; exact hl) ha ht) q
end
end
section
open PySem PySem.W PyProof.Rows
noncomputable def TopOk (su : Int → List Int) (fin : List Int) : List (Int × Nat) → Prop
  | [] => True
  | (k, pos) :: r => (∀ y ∈ (su k).take pos, y ∈ fin) ∧ Lk su fin r k
theorem Lk.topOk {su : Int → List Int} {fin fin' : List Int} {r : List (Int × Nat)} {v : Int} (l : Lk su fin r v) (hv : v ∈ fin') (h : ∀ x ∈ fin, x ∈ fin') : TopOk su fin' r := by
  cases l with
  | nil => trivial
  | @cons k _ pos r h1 h2 h3 t =>
    refine ⟨fun y hy => ?_, t.mono h⟩
    rw [show pos = (pos - 1) + 1 by lia, take_succ h2] at hy
    rcases List.mem_append.mp hy with hy | hy
    · exact h y (h3 y hy)
    · rw [List.mem_singleton.mp hy]; exact hv
theorem nd_len : ∀ (l m : List Int), l.Nodup → (∀ x ∈ l, x ∈ m) → l.length ≤ m.length
  | [], _, _, _ => Nat.zero_le _
  | a :: r, m, h, hs => by
    have hn := List.nodup_cons.mp h
    have ha : a ∈ m := hs a List.mem_cons_self
    have := nd_len r (m.erase a) hn.2 fun x hx => (List.mem_erase_of_ne (fun z : x = a => hn.1 (z ▸ hx))).mpr (hs x (List.mem_cons_of_mem _ hx))
    rw [List.length_erase_of_mem ha] at this
    have hp := List.length_pos_of_mem ha
    rw [List.length_cons]
    lia
theorem gn_StopIteration : TT.glob (Str.ofString "StopIteration") = none := rfl
theorem n2i_keys {L : Lay} {S : PS} : (n2i L S).map (fun p => AV.int p.1) = ivs S.nodes := by unfold n2i ivs; rw [List.map_map]; rfl
theorem f_ins {σ : St} {l : Addr} {i : Int} {es : List Int} {Rc : Bool → Prop} (h : σ.H l = some (.set es)) (q : Rc (es.contains i)) : ∃ c, Cmp .In (.int i) (.con (.ref l)) σ c ∧ Rc c := ⟨_, n_set h, q⟩
theorem f_ind {σ : St} {l : Addr} {i : Int} {es : List (Int × AV)} {ep : Nat} {Rc : Bool → Prop} (h : σ.H l = some (.dictI es ep)) (q : Rc (es.any (·.1 == i))) : ∃ c, Cmp .In (.int i) (.con (.ref l)) σ c ∧ Rc c := ⟨_, n_dict h, q⟩
inductive F1 (H0 : Hp) (A : A4) (L : Lay) (S : PS) (idx : Nat) (H : Hp) : Prop
  | mk (seen fin : List Int) (F : FH H0 A L H [] [] seen) (D : DI S [] seen fin) (hall : ∀ x ∈ S.nodes.take idx, x ∈ seen) : F1 H0 A L S idx H
inductive F2 (H0 : Hp) (A : A4) (L : Lay) (S : PS) (idx : Nat) (v : Int) (m : Nat) (H : Hp) (w : Int) : Prop
  | mk (rs : List (Int × Nat)) (ri : List Addr) (seen fin : List Int) (F : FH H0 A L H rs ri seen) (D : DI S rs seen fin) (lk : Lk S.su fin rs w) (hw : w ∈ S.nodes) (hm : m = rem S seen rs) (hall : ∀ x ∈ S.nodes.take idx, x ∈ seen) (hroot : v ∈ seen ∨ w = v) : F2 H0 A L S idx v m H w
inductive F3 (H0 : Hp) (A : A4) (L : Lay) (S : PS) (idx : Nat) (v : Int) (m : Nat) (H : Hp) (w : Int) : Prop
  | mk (rs : List (Int × Nat)) (ri : List Addr) (seen fin : List Int) (F : FH H0 A L H rs ri seen) (D : DI S rs seen fin) (tk : TopOk S.su fin rs) (hm : m = rem S seen rs) (hall : ∀ x ∈ S.nodes.take idx, x ∈ seen) (hroot : v ∈ seen) : F3 H0 A L S idx v m H w
inductive F4 (H0 : Hp) (A : A4) (L : Lay) (S : PS) (seen : List Int) (m m2 : Nat) (H : Hp) : Prop
  | mk (rs : List (Int × Nat)) (ri : List Addr) (fin : List Int) (F : FH H0 A L H rs ri seen) (D : DI S rs seen fin) (tk : TopOk S.su fin rs) (hm : m = rem S seen rs) (hm2 : m2 = rs.length) : F4 H0 A L S seen m m2 H
noncomputable abbrev usF (i D : Addr) (A : A4) (v : Option AV) : List (Option AV) := [some (rf i), some (rf D), some (rf A.S), some (rf A.I), some (rf A.E), some (rf A.D), v]
section
variable {H : Hp} {n : Nat} {i : Addr} {L : Lay} {S : PS} {p f : Int} {Q : AV → Hp → Prop} {rv : AV}
theorem find_cycle_ok (h : SR H i L S rv p f) (hs : ∀ k ∈ S.nodes, ∀ j ∈ S.su k, j ∈ S.nodes) (hl : S.nodes.length ≤ 300)
    (q1 : ∀ vs, vs ≠ [] → vs.length ≤ 1000 → Cyc S → Q (.lst vs) H) (q2 : ∀ fin, Topo S.su fin → (∀ k ∈ S.nodes, k ∈ fin) → Q .none H) : Body TT (n + 1) (fnOf 224) [("self", rf i)] H Q := by
  with_reducible refine body_0 (us := [some (rf i), none, none, none, none, none, none]) (by decide +kernel) (by decide +kernel) (by kernel_rfl) ?_
  conv => arg 2; whnf
  have h1 := h.inst
  have h2 := h.att
  obtain ⟨ep, h3⟩ := h.dict
  walk_at "ws"
  intro aS zS
  walk_at "ws"
  intro aI zI
  have nSI : aS ≠ aI := ne_new upd_same zI
  have zI := upd_dom zI
  walk_at "ws"
  refine v_set fun aE zE => ?_
  have nIE : aI ≠ aE := ne_new upd_same zE
  have nSE : aS ≠ aE := ne_new (up_ne' nSI upd_same) zE
  have zE := upd_dom (upd_dom zE)
  walk_at "ws"
  intro aD zD
  have nED : aE ≠ aD := ne_new upd_same zD
  have nID : aI ≠ aD := ne_new (up_ne' nIE upd_same) zD
  have nSD : aS ≠ aD := ne_new (up_ne' nSE (up_ne' nSI upd_same)) zD
  have zD := upd_dom (upd_dom (upd_dom zD))
  walk_at "ws"
  have F0 : FH H ⟨aS, aI, aE, aD⟩ L (upd (upd (upd (upd H aS (.list [])) aI (.list [])) aE (.set [])) aD (.dictI [] 0)) [] [] [] :=
    ⟨fun a o e => up_ne' (ne_new e zD) (up_ne' (ne_new e zE) (up_ne' (ne_new e zI) (up_ne' (ne_new e zS) e))), zS, zI, zE, zD, nSI, up_ne' nSD (up_ne' nSE (up_ne' nSI upd_same)), up_ne' nID (up_ne' nIE upd_same), up_ne' nED upd_same, ⟨0, upd_same⟩, .nil⟩
  generalize upd (upd (upd (upd H aS (.list [])) aI (.list [])) aE (.set [])) aD (.dictI [] 0) = H1 at *
  obtain ⟨A, rfl, rfl, rfl, rfl⟩ : ∃ A : A4, A.S = aS ∧ A.I = aI ∧ A.E = aE ∧ A.D = aD := ⟨⟨aS, aI, aE, aD⟩, rfl, rfl, rfl, rfl⟩
  clear nSI nIE nSE nED nID nSD zS zI zE zD
  have hD0 : DI S [] [] [] := ⟨.nil, (fun x => by simp), List.nodup_nil, (fun x h => nomatch h), (fun x h => nomatch h), List.nodup_nil, (fun x h => nomatch h)⟩
  refine x_forC (by decide +kernel) (i_plain (fun _ _ => rfl) ?_)
  walk_at "ws"
  refine e_sr (sr_keys (F0.old _ _ h3)) ⟨H1, usF i L.D A none, rfl, F1 H A L S, ⟨[], [], F0, hD0, fun x hx => nomatch hx⟩, ?_, ?_, ?_⟩
  · rintro c H2 ⟨seen, fin, F, _⟩ ns
    exact F.old _ _ h3
  · rintro idx v' H2 hv0 ⟨seen, fin, F, D, hall⟩
    rw [n2i_keys] at hv0
    obtain ⟨v, hv, rfl⟩ := ivs_get hv0
    have hvm : v ∈ S.nodes := List.mem_of_getElem? hv
    have c4 := F.se
    walk_at "ws"
    refine ⟨fun e => ?_, fun e => ?_⟩
    · have e' : v ∈ seen := List.contains_iff_mem.mp e
      walk_at "ws"
      refine ⟨_, _, rfl, rfl, seen, fin, F, D, fun x hx => ?_⟩
      rw [take_succ hv] at hx
      exact (List.mem_append.mp hx).elim (hall x) fun hx => List.mem_singleton.mp hx ▸ e'
    · have e' : v ∉ seen := fun z => ff (e.symm.trans (List.contains_iff_mem.mpr z))
      walk_at "ws"
      refine x_whileC (fun w => usF i L.D A (some (.int w))) (rem S seen []) v (by decide +kernel) (F2 H A L S idx v) ⟨[], [], seen, fin, F, D, .nil, hvm, rfl, hall, .inr rfl⟩ ?_
      clear F D hall c4 e e'
      rintro m H3 w ⟨rs, ri, seen, fin, F, D, lk, hw, hm, hall, hroot⟩
      have c4 := F.se
      obtain ⟨e5, c5⟩ := F.ns
      have c1 := F.st
      have c2 := F.it
      have hnl : rs.length ≤ 300 := by
        have := nd_len _ S.nodes D.nd D.mem
        rw [List.length_map] at this
        lia
      walk_at "ws"
      refine br_cutC (fun w => usF i L.D A (some (.int w))) (F3 H A L S idx v m) ?_ ?_
      · refine ⟨fun e => ?_, fun e => ?_⟩
        · have e' : w ∈ seen := List.contains_iff_mem.mp e
          walk_at "ws"
          rw [nsE_keys]
          refine ⟨fun e2 => ?_, fun e2 => ?_⟩
          · have e2' := of_decide_eq_true e2
            have hcyc := D.cyc lk e2'
            walk_at "ws"
            obtain ⟨j, hj, hjl⟩ := nsE_lookup rs w e2'
            refine f_dict c5 hj ?_
            walk_at "ws"
            refine e_sl (sl_list (.ref c1) (by rw [stL_len]; walk_at "lm")) ?_
            walk_at "ws"
            refine ⟨by show 1 ≤ lim; walk_at "lm", fun B zB => ?_⟩
            have hal := aslice_len (stL rs) (some (j : Int)) none
            rw [stL_len] at hal
            refine f_addL (.lst _) (.ref upd_same) (by show _ + 1 ≤ lim; walk_at "lm") ?_
            walk_at "ws"
            refine ⟨H, fun a o e => up_ne' (ne_new (F.old a o e) zB) (F.old a o e), q1 _ (fun z => ?_) ?_ hcyc⟩
            · exact nomatch (List.append_eq_nil_iff.mp z).2
            · rw [List.length_append]; show _ + 1 ≤ _; lia
          · have e2' := of_decide_eq_false e2
            walk_at "ws"
            have hwf : w ∈ fin := ((D.seen_iff w).mp e').elim id fun z => absurd z e2'
            exact ⟨_, _, w, rfl, rfl, rs, ri, seen, fin, F, D, lk.topOk hwf fun _ h => h, hm, hall, hroot.elim id fun z => z ▸ e'⟩
        · have e' : w ∉ seen := fun z => ff (e.symm.trans (List.contains_iff_mem.mpr z))
          walk_at "ws"
          have hwn : w ∉ rs.map (·.1) := fun z => e' ((D.seen_iff w).mpr (.inr z))
          have hsn := nd_len _ S.nodes D.snd D.smem
          have hri := F.its.len
          have c6 := F.old _ _ h3
          have c7 := F.old _ _ (h.info w hw)
          have c8 := F.old _ _ (h.suc w hw)
          refine v_addN c4 (by lia) e' ?_
          have kp : ∀ {b o}, H3 b = some o → b ≠ A.E → upd H3 A.E (.set (w :: seen)) b = some o := fun e n => up_ne' n e
          have d1 := kp c6 (ne_of c6 c4 rfl)
          have d2 := kp c7 (ne_of c7 c4 rfl)
          have d3 := kp c8 (ne_of c8 c4 rfl)
          have d4 := kp c2 (ne_of c2 c4 rfl)
          walk_at "ws"
          refine f_dict (by exact d1) (n2i_in hw) ?_
          walk_at "ws"
          refine v_iter d3 fun M hM => ?_
          have nM : ∀ {b o}, H3 b = some o → b ≠ A.E → b ≠ M := fun e n => ne_new (kp e n) hM
          walk_at "ws"
          refine v_append (up_ne' (nM c2 (ne_of c2 c4 rfl)) d4) (by rw [itL_len]; walk_at "lm") ?_
          walk_at "ws"
          refine bu_len (vs := stL rs) (.li (.ref (up_ne' F.ne (up_ne' (nM c1 (ne_of c1 c4 rfl)) (kp c1 (ne_of c1 c4 rfl)))))) (by rw [stL_len]; walk_at "lm") ?_
          walk_at "ws"
          refine v_dict (es := nsE rs) (ep := e5) (up_ne' (ne_of c5 c2 rfl) (up_ne' (nM c5 (ne_of c5 c4 rfl)) (kp c5 (ne_of c5 c4 rfl)))) (by rw [nsE_len]; walk_at "lm") ?_
          walk_at "ws"
          have d5 : ∀ {o1 o2 o3}, upd (upd (upd (upd H3 A.E (AObj.set (w :: seen))) M o1) A.I o2) A.D o3 A.S = some (.list (stL rs)) := fun {o1 o2 o3} => up_ne' (ne_of c1 c5 rfl) (up_ne' F.ne (up_ne' (nM c1 (ne_of c1 c4 rfl)) (kp c1 (ne_of c1 c4 rfl))))
          refine f_mappend (by exact d5) ?_
          walk_at "ws"
          refine v_append (vs := stL rs) d5 (by rw [stL_len]; walk_at "lm") ?_
          walk_at "ws"
          rw [stL_len]
          exact ⟨_, _, w, rfl, rfl, (w, 0) :: rs, M :: ri, w :: seen, fin, F.push (upd_dom hM) hwn, D.push e' hw, ⟨(fun y hy => nomatch hy), lk⟩, by rw [rem_push h.nd e' hw]; exact hm,
            fun x hx => List.mem_cons_of_mem _ (hall x hx), hroot.elim (List.mem_cons_of_mem _) fun z => z ▸ List.mem_cons_self⟩
      · clear F D lk hw hm hall hroot c4 c5 c1 c2 hnl
        rintro H4 w ⟨rs, ri, seen, fin, F, D, tk, hm, hall, hroot⟩
        have hnl : ∀ {rs fin}, DI S rs seen fin → rs.length ≤ 300 := fun D => by
          have := nd_len _ S.nodes D.nd D.mem
          rw [List.length_map] at this
          lia
        walk_at "ws"
        refine x_whileC (fun _ : Unit => usF i L.D A (some (.int w))) rs.length () (by decide +kernel) (fun m2 H5 _ => F4 H A L S seen m m2 H5) ⟨rs, ri, fin, F, D, tk, hm, rfl⟩ ?_
        clear F D tk hm
        rintro m2 H5 - ⟨rs, ri, fin, F, D, tk, hm, hm2⟩
        have hnl' := hnl D
        have c1 := F.st
        have c2 := F.it
        obtain ⟨e5, c5⟩ := F.ns
        walk_at "ws"
        refine f_tru (.ref c1) (by rw [stL_len]; walk_at "lm") ?_
        cases rs with
        | nil =>
          refine br_f rfl ?_
          walk_at "ws"
          obtain rfl : ri = [] := List.length_eq_zero_iff.mp F.its.len
          refine ⟨_, _, rfl, rfl, seen, fin, F, D, fun x hx => ?_⟩
          rw [take_succ hv] at hx
          exact (List.mem_append.mp hx).elim (hall x) fun hx => List.mem_singleton.mp hx ▸ hroot
        | cons top r =>
          obtain ⟨k, pos⟩ := top
          refine br_t (by rw [stL_cons]; cases stL r <;> rfl) ?_
          walk_at "ws"
          have its := F.its
          cases its with | @cons _ _ a _ ri g g0 hgn t =>
          have hkm : k ∈ S.nodes := D.mem k List.mem_cons_self
          have c8 : H5 (L.sl k) = some (.list (ivs (S.su k))) := F.old _ _ (h.suc k hkm)
          have hil : (itL (a :: ri)).length = r.length + 1 := by rw [itL_len, List.length_cons, t.len]
          have hrl : r.length + 1 ≤ 300 := hnl'
          refine x_try1 (show ((fnOf 224).scope.names.lookup ("StopIteration" : Str) == some .globalImplicit) = true by decide +kernel) gn_StopIteration ?_
          walk_at "ws"
          refine f_list (.ref c2) (by rw [hil]; exact seq_neg (Nat.succ_pos _) (by walk_at "lm")) (v := .bm NX a) (by rw [itL_cons, List.getElem?_append_right (by rw [itL_len, t.len]; exact Nat.le_refl _), itL_len, t.len, Nat.add_sub_cancel, Nat.sub_self]; rfl) ?_
          refine ⟨a, L.sl k, pos, ivs (S.su k), rfl, g, c8, fun v' hv' => ?_, fun hv' => ?_⟩
          · obtain ⟨j, hj, rfl⟩ := ivs_get hv'
            have hlt : pos < (S.su k).length := (List.getElem?_eq_some_iff.mp hj).1
            have hra := rem_adv (S := S) (seen := seen) (rs := r) hlt
            walk_at "ws"
            exact ⟨rem S seen ((k, pos + 1) :: r), _, _, j, by lia, rfl, rfl, (k, pos + 1) :: r, a :: ri, seen, fin, F.adv, D.adv, .cons (Nat.succ_pos _) hj tk.1 tk.2, hs k hkm j (List.mem_of_getElem? hj), rfl, hall, .inl hroot⟩
          · have hge : (S.su k).length ≤ pos := by
              have := List.getElem?_eq_none_iff.mp hv'
              rw [ivs_len] at this
              exact this
            have hfin : ∀ j ∈ S.su k, j ∈ fin := fun j hj => tk.1 j (by rw [List.take_of_length_le hge]; exact hj)
            have hkr : k ∉ r.map (·.1) := (List.nodup_cons.mp D.nd).1
            obtain ⟨jk, hjk, _⟩ := nsE_lookup ((k, pos) :: r) k List.mem_cons_self
            have gS : A.S ≠ a := ne_of c1 g rfl
            have gI : A.I ≠ a := ne_of c2 g rfl
            have gD : A.D ≠ a := ne_of c5 g rfl
            have dS : A.D ≠ A.S := ne_of c5 c1 rfl
            have dI : A.I ≠ A.D := ne_of c2 c5 rfl
            refine hv_del (vs := stL ((k, pos) :: r)) (i := k) (es := nsE ((k, pos) :: r)) (ep := e5) 5 2 (by decide +kernel) rfl (by decide +kernel) rfl rfl (up_ne' gD c5) (up_ne' gS c1) (by rw [stL_cons]; exact List.getLast?_concat) (by rw [stL_len]; show r.length + 1 ≤ lim; walk_at "lm")
              (List.mem_map.mpr ⟨_, mem_lk hjk, rfl⟩) (by rw [nsE_len]; show r.length + 1 ≤ lim; walk_at "lm") ?_
            refine hv_pop (vs := itL (a :: ri)) (v := .bm NX a) 3 (by decide +kernel) rfl rfl (up_ne' dI (up_ne' (Ne.symm F.ne) (up_ne' gI c2))) (by rw [itL_cons]; exact List.getLast?_concat) (by rw [hil]; walk_at "lm") ?_
            refine hs_nil ?_
            walk_at "ws"
            exact ⟨r.length, _, _, (), by rw [hm2]; exact Nat.lt_succ_self _, rfl, rfl, r, ri, k :: fin, F.pop hkr, D.pop hfin, tk.2.topOk List.mem_cons_self fun x h => List.mem_cons_of_mem _ h, by rw [rem_pop hge]; exact hm, rfl⟩
  · rintro H2 ⟨seen, fin, F, D, hall⟩
    rw [n2i_keys, ivs_len, List.take_length] at hall
    walk_at "ws"
    exact ⟨H, F.old, q2 fin D.topo fun k hk => ((D.seen_iff k).mp (hall k hk)).resolve_right nofun⟩
end
end
section
open PySem PySem.W PyProof.Rows PySem.Calls PySem.SeqAt
section
variable {C : Cx} {P P' : Pt} {Φ : Fm} {fs : FS} {σ : St} {vs : List AV} {a : Addr} {fi : FI} {n : Nat} {binds : List (Str × AV)} {Q : AV → St → Prop} {X : St → Prop} {K : AFlow → St → Prop} {ss : List Stmt} {st : Stmt} {e o t : Expr} {p p1 p2 p3 q : Pos} {x m : Str}
theorem we_cons (h : W1 fs st σ fun fl s => match fl with | .next => Wxe fs ss s K X | fl => K fl s) : Wxe fs (st :: ss) σ K X := fun Φ P Q E F ff ok k kx => wpAny_execs_cons (h Φ P _ E F ff ok fun P1 g fl σ1 l1 ok1 r1 z => by
  cases r1 with
  | next => exact z Φ P1 Q E F ff ok1 (fun P2 g fl σ2 l2 => k P2 g fl σ2 (l1.trans l2)) fun P2 σ2 h' e vs l2 => kx P2 σ2 h' e vs (l1.trans l2)
  | brk => exact k P1 .brk .brk σ1 l1 ok1 .brk z
  | cont => exact k P1 .cont .cont σ1 l1 ok1 .cont z
  | ret r => exact k P1 _ _ σ1 l1 ok1 (.ret r) z)
theorem we_if {b b' : List Stmt} (h : Wt fs t σ fun c s => Br c (Wxe fs b s K X) (Wxe fs b' s K X)) : Wxe fs [.If t b b' p] σ K X := fun Φ P Q E F ff ok k kx => by
  refine wpAny_execs_cons ?_
  rw [arm_exec_If]
  refine wpAny_bind (wpAny_standAt (wpAny_bind (h Φ P _ E F ok fun P1 c σ1 l1 ok1 z => ?_)))
  have fin : ∀ {b}, Wxe fs b σ1 K X → wpAny Φ.M Φ.A (execs b Φ.env) (fun f s₁ => match f with | .next => wpAny Φ.M Φ.A (execs [] Φ.env) Q E s₁ | f => Q f s₁) E P1.s := fun z =>
    z Φ P1 _ E F ff ok1 (fun P2 g fl σ2 l2 ok2 r2 y => by
      cases r2 with
      | next => exact wpAny_pure (k P2 .next .next σ2 (l1.trans l2) ok2 .next y)
      | brk => exact k P2 .brk .brk σ2 (l1.trans l2) ok2 .brk y
      | cont => exact k P2 .cont .cont σ2 (l1.trans l2) ok2 .cont y
      | ret r => exact k P2 _ _ σ2 (l1.trans l2) ok2 (.ret r) y) fun P2 σ2 h' e vs l2 => kx P2 σ2 h' e vs (l1.trans l2)
  cases c with
  | true => exact fin (z.1 rfl)
  | false => exact fin (z.2 rfl)
theorem we_raise {es : List Expr} (h0 : isK fs "CycleError" .globalImplicit = true) (hg : fs.T.glob "CycleError" = some (.ref 152)) (hs : es.any isStar = false) (h : WAs fs es σ fun vs s => vs.length ≤ lim ∧ X s) :
    Wxe fs [.Raise (some (.Call (.Name "CycleError" p1) es [] p2)) none p3] σ K X := fun Φ P Q E F ff ok k kx => by
  obtain ⟨nm, q, N, bs, hdct, sn, sub, ab, col, dd, k0, k1, k2, k3, k5, mN, hC, hN, hi⟩ := F.cx.exc.obj
  refine wpAny_execs_cons (wpAny_Raise_call_sub (C := 152) (nm := nm) (q := q) (N := N) (bs := bs) (hdct := hdct) (sn := sn) (sub := sub) (ab := ab) (col := col) (dd := dd) (k0 := k0) (k1 := k1) (k2 := k2) (k3 := k3) (k5 := k5) PySem.F.excBase_ValueError (mN := mN) F.handled (by rw [backTo_any, hs]) hi ?_)
  refine (w_glob h0 hg (Q := fun v s => v = .con (.ref 152) ∧ s = σ) ⟨rfl, rfl⟩) Φ P _ _ F ok fun P1 x v σ1 l1 ok1 r1 z => ?_
  obtain ⟨rfl, rfl⟩ := z
  refine ⟨r1.inv, wpAny_mono (h Φ P1 (fun xs s' => xs.length ≤ sizeLine ∧ s'.heap.get? 152 = some (excClassObj nm q 152 N bs vErr hdct sn sub ab col dd k0 k1 k2 k3 k5 "ValueError.__new__") ∧ s'.heap.Ns N mN ∧ ∀ h' e, Heap.MadeExcOf s'.heap h' e (.ref 152) xs → E (.ref e) { s' with heap := h' }) E p2 _ F ok1 fun P2 xs vs σ2 l2 ok2 r2 z => ?_) (fun a s' y => y) fun _ _ x => x⟩
  exact ⟨by rw [r2.length]; exact lim_size z.1, ok2.keep _ _ hC, hN.keeps ok2.keep, fun h' e made => kx P2 σ2 h' e xs (l1.trans l2) ok2 made z.2⟩
theorem map_gone {H' : Addr → Option AObj} {L : Addr} (ok : Ok Φ σ P) (n : joinM H' (rest (Φ.map σ) σ.H) L = none) : Φ.map ⟨H', σ.ns⟩ L = none := by
  unfold joinM at n
  cases e : H' L with
  | some ob => rw [e] at n; exact nos n.symm
  | none =>
    rw [e] at n
    have n : rest (Φ.map σ) σ.H L = none := n
    cases e' : σ.H L with
    | some ob =>
      obtain ⟨d1, d2⟩ := ok.dj L ob e'
      rw [map_N d2, show (⟨H', σ.ns⟩ : St).H L = none from e, d1]; rfl
    | none =>
      rw [rest_none e'] at n
      by_cases hL : L = Φ.env.locals
      · rw [hL, map_L] at n; exact nos n.symm
      · rw [map_N hL, e'] at n
        rw [map_N hL, show (⟨H', σ.ns⟩ : St).H L = none from e]; exact n
theorem x_tryE {b0 : Stmt} {bs : List Stmt} {apos p4 p5 : Pos} (ho : ∀ env w, attributeBase o m env w = w) (hl : (apos.endLine == p.line) = true) (hn : fs.n = n + 1) (hm : methOf m = some a) (hlb : fs.T.lib a = some fi) (h0 : isK fs "CycleError" .globalImplicit = true) (hg : fs.T.glob "CycleError" = some (.ref 152))
    (h : We fs o σ fun ov s => ∃ i binds, ov = .con (.ref i) ∧ Inst s i ∧ abind fi [ov] = some binds ∧ BodyE fs.T n fi binds s.H (fun _ H' => K .next ⟨H', s.ns⟩) fun H' => Whs fs (b0 :: bs) ⟨H', s.ns⟩ fun s => K .next s) :
    W1 fs (.Try [.Expr (.Call (.Attribute o m apos) [] [] p) p2] [.ExceptHandler (some (.Name "CycleError" p3)) none (b0 :: bs) p4] [] [] p5) σ K := fun Φ P Q E F ff ok q => by
  refine wpAny_Try_except (wpAny_execs_cons (wpAny_Expr_any ?_ F.notI rfl))
  refine meth_at ho hl rfl (by decide) h F ok fun P1 x ov σ1 l1 ok1 r1 z pl => ?_
  obtain ⟨i, binds, e0, ⟨d, es', i1, i2, i3⟩, hb, hB⟩ := z
  subst e0
  obtain rfl : x = .ref i := r1.inv
  obtain ⟨od, mm, I, e2, q1, q2, q3⟩ := inst_at ok1 i1 i2
  have hpg := plainGet_of F.cx.cls.tGet
  have m12 := F.cx.cls.tMeth m a hm
  refine method_fn (ok1.frag F) I hpg.1 hpg.2 m12.1 m12.2 (by unfold shadowIn; dsimp only; rw [lookIn_of q1, inst_names F.cx hm i3 q2]; rfl) ?_
  refine callWith_w F ok1 (wa_nil (Ql := fun vs s => vs = [] ∧ s = σ1) ⟨rfl, rfl⟩) (fun P2 σ2 l2 ok2 => keeps_K (F.cx.cls.meth m a hm).2.2.2.1 _ (ok2.frag F)) fun P2 xs vs σ2 l2 ok2 r2 z => ?_
  obtain ⟨rfl, rfl⟩ := z
  obtain ⟨oc, od', fd, osl, fn, D⟩ := F.cx.lib.lib a fi (F.T ▸ hlb)
  refine wpAny_call (codeAny_mono (fn_runE (n := n) (X := fun H' => Whs fs (b0 :: bs) ⟨H', σ2.ns⟩ fun s => K .next s) (Q := fun _ H' => K .next ⟨H', σ2.ns⟩) (call_ok F ok2.m ok2.dj F.handled (by have := F.depth; lia) (by have := F.units; lia) F.frames) ok2.m fn (fun A E Q q => binds_ok D (.cons (r1.le l2) r2) hb q) (F.T ▸ hB)
    (fun P' H' e a0 h' L le okm dj z nim nL hu hfl => ?_) fun P' x v H' le okm dj rx z => ?_) fun r s' x => x)
  rotate_left
  · exact wpAny_pure (wpAny_pure (q P' .next .next _ (l1.trans (l2.trans le)) (back_ok F ok2.dj okm dj) .next z))
  · have ok3 := back_ok F ok2.dj okm dj
    obtain ⟨hf, outer, hfo⟩ := ff
    obtain ⟨nm, q', N, bs, hdct, sn, sub, ab, col, dd, k0, k1, k2, k3, k5, mN, hC, hN, hi⟩ := F.cx.exc.obj
    have hj : ∀ b ∈ [L], ¬ P'.im b ∧ Φ.map ⟨H', σ2.ns⟩ b = none := fun b hb => List.mem_singleton.mp hb ▸ ⟨nim, map_gone ok2 nL⟩
    have hfl0 := hfl
    rw [hfo] at hfl0
    refine wpAny_looks_onW (by rw [← hfo]; exact F.frames) hf hfl0 fun h₄ held₄ hsm₄ => ?_
    rw [← hfo] at held₄
    refine wpAny_landsW held₄ fun h₅ hfl₅ hsm₅ => ?_
    have hu₅ := (hu.trans hsm₄).trans hsm₅
    have keepB : ∀ b o, Φ.C.B.get? b = some o → h₅.get? b = some o := fun b o e => by
      have i := (ok3.m.base b o e)
      refine hfl₅.1 b o (hideAll_get _ i.1 fun z => ?_)
      rcases List.mem_cons.mp z with z | z
      · exact nim (z ▸ i.2)
      · obtain ⟨ns, e'⟩ := frames_loc F ok3 b z
        exact (ok3.m.objs _ _ e').1 i.2
    obtain ⟨mg, hg1, hs, _⟩ := F.cx.glob
    obtain ⟨oe, hoe, hoc⟩ := hfl₅.there
    refine wpAny_handleBy_cons (codeAny_handlers_test (Name_function_global F.kn (isK_at h0 F).1 (loadGlobal_global (by rw [F.glob]; exact hg1.keeps keepB) (hs _ _ (F.T ▸ hg)) ?_) (isK_at h0 F).2.1)) (fun z => nomatch z)
    refine wpAny_excMatches_sub_self (keepB _ _ hC) hoe hoc (by decide) ?_
    refine codeAny_handlers_suite ?_
    exact suite_ok (J := [L]) F ok3 hj hu₅ hfl₅ z fun P4 σ4 l4 ok4 z => q P4 .next .next σ4 (l1.trans (l2.trans (le.trans l4))) ok4 .next z
theorem Wxe.nless {ns : List (Str × AV)} {ss : List Stmt} (h : Wxe fs ss ⟨σ.H, ns⟩ K X) (z : Sub1 ns σ.ns) : Wxe fs ss σ K X := fun Φ P Q E F ff ok k kx => h Φ P Q E F ff (ok.nless z) k kx
theorem body_0E {T : Top0} {H : Addr → Option AObj} {us : List (Option AV)} {Qb : AV → (Addr → Option AObj) → Prop} {Xb : (Addr → Option AObj) → Prop} (hc : (cellNames fi.scope).isEmpty = true) (hl : lok fi.scope = true) (he : ent fi.scope binds = us)
    (h : Wxe ⟨T, n, fi.scope, [], fi.lam⟩ fi.body (V ⟨T, n, fi.scope, [], fi.lam⟩ H us) (fun fl s' => ∃ H', SubH H' s'.H ∧ Qb (retOf fl) H') fun s' => ∃ H', SubH H' s'.H ∧ Xb H') : BodyE T n fi binds H Qb Xb := fun base hb => by
  rw [cells_none _ _ hc, List.isEmpty_iff.mp hc]
  show Wxe _ _ ⟨addC H base [], _⟩ _ _
  rw [addC_nil]
  exact Wxe.nless (σ := ⟨H, _⟩) (he ▸ h) (sub1_ent hl)
theorem hv_set {T : Top0} {sc : Scope} {cells : List (Str × Nat)} {lam : Bool} {H : Addr → Option AObj} {us : List (Option AV)} {b : Bool} {u : Nat} {Qs : St → Prop} (k : Nat) (h : plc sc x k = true) (hk : (us[k]?).isSome = true) (q : Whs ⟨T, n, sc, cells, lam⟩ ss (V ⟨T, n, sc, cells, lam⟩ H (us.set k (some (.bool b)))) Qs) :
    Whs ⟨T, n, sc, cells, lam⟩ (.Assign [.Name x p] (.Constant (.bool b) u p1) p2 :: ss) (V ⟨T, n, sc, cells, lam⟩ H us) Qs :=
  hs_set (Bool.and_eq_true_iff.mp (plc_K (T := T) (m := n) (cells := cells) (lam := lam) h)).1 fun Φ P K E F ok kk => q Φ P K E F (Ok.nless ok fun e => set_less h (lt_of hk) e) kk
end
end
section
open PySem PySem.W PyProof.Rows
noncomputable def _root_.Mine.PS.free (S : PS) : List Int := S.nodes.filter fun k => decide (S.np k = 0)
section
variable {H : Hp} {n : Nat} {i : Addr} {L : Lay} {S : PS} {p f : Int} {Q : AV → Hp → Prop} {rv : AV}
theorem prepare_okE (h : SR H i L S .none p f) (hs : ∀ k ∈ S.nodes, ∀ j ∈ S.su k, j ∈ S.nodes) (hl : S.nodes.length ≤ 300) {X : Hp → Prop}
    (q : (∃ fin, Topo S.su fin ∧ ∀ k ∈ S.nodes, k ∈ fin) → ∀ H' R, SR H' i L S (rf R) p f → H' R = some (.list (ivs S.free)) → H R = none → (∀ a, H' a = none → H a = none) → (∀ a o, H a = some o → a ≠ L.d → H' a = some o) → Q .none H')
    (qx : Cyc S → ∀ H' R, SR H' i L S (rf R) p f → H' R = some (.list (ivs S.free)) → H R = none → (∀ a, H' a = none → H a = none) → (∀ a o, H a = some o → a ≠ L.d → H' a = some o) → X H') : BodyE TT (n + 2) (fnOf 189) [("self", rf i)] H Q X := by
  with_reducible refine body_0E (us := [some (rf i), none]) (by decide +kernel) (by decide +kernel) (by kernel_rfl) ?_
  conv => arg 2; whnf
  have h1 := h.inst
  have h2 := h.att
  obtain ⟨ep, h3⟩ := h.dict
  refine we_cons ?_
  walk_at "ws"
  refine we_cons ?_
  walk_at "ws"
  have hf : S.nodes.filterMap (fun k => if S.np k = 0 then some (AV.int k) else none) = ivs S.free := by
    unfold PS.free ivs
    generalize S.nodes = ns
    induction ns with
    | nil => rfl
    | cons a r ih =>
      by_cases e : S.np a = 0 <;> simp [List.filterMap_cons, List.filter_cons, e, ih]
  refine w_compR (comp2 (z := ".0") S.nodes (fun k => rf (L.ad k)) (fun k => if S.np k = 0 then some (.int k) else none) _ hf rfl (by kernel_rfl) (by decide +kernel) rfl (fun _ => rfl) (i_values rfl (fun _ _ => rfl) rfl ?_))
  walk_at "ws"
  refine ⟨L.D, n2i L S, ep, rfl, h3, by unfold n2i; rw [List.map_map]; rfl, fun ns => h3, by walk_at "lm", fun base v hv => ?_, ?_⟩
  · have c7 := h.info v hv
    walk_at "ws"
    refine ⟨fun e => ?_, fun e => ?_⟩
    · walk_at "ws"
      refine ⟨rfl, br_t rfl ?_⟩
      walk_at "ws"
      exact ⟨rfl, if_pos (of_decide_eq_true e)⟩
    · exact ⟨rfl, br_f rfl (if_neg (of_decide_eq_false e))⟩
  · intro R zR
    have hR : H R = none := zR
    have x1 := h.other (Ne.symm (ne_new h1 hR)) (fun z => z.elim (fun z => ne_new h2 hR z.symm) fun z => z.elim (fun z => ne_new h3 hR z.symm) fun ⟨k, hk, z⟩ => z.elim (fun z => ne_new (h.info k hk) hR z.symm) fun z => ne_new (h.suc k hk) hR z.symm) (o := .list (ivs S.free))
    have e1 := x1.inst
    have e2 := x1.att
    have hid : i ≠ L.d := ne_of h1 h2 rfl
    walk_at "ws"
    have x2 := x1.setAtt (rv' := rf R) (p' := p) (f' := f)
    have hRd : R ≠ L.d := Ne.symm (ne_new h2 hR)
    refine we_cons ?_
    walk_at "ws"
    refine fc_V lib224 (by kernel_rfl) (find_cycle_ok x2 hs hl (fun vs hne hvl hcyc => ?_) fun fin ht hall => ?_)
    · walk_at "ws"
      refine we_if ?_
      walk_at "ws"
      refine f_tru (.lst _) (by walk_at "lm") ?_
      refine br_t (by cases vs with
                      | nil => exact absurd rfl hne
                      | cons _ _ => rfl) ?_
      refine we_raise (show ((fnOf 189).scope.names.lookup ("CycleError" : Str) == some .globalImplicit && !badName "CycleError") = true by decide +kernel) rfl rfl ?_
      walk_at "ws"
      refine w_fstr1 ?_
      walk_at "ws"
      exact ⟨show 2 ≤ lim by walk_at "lm", _, fun _ _ z => z, qx hcyc _ R x2 (up_ne' hRd upd_same) hR (fun a z => upd_dom (upd_dom z)) fun a o e n => up_ne' n (up_ne' (ne_new e hR) e)⟩
    · walk_at "ws"
      refine we_if ?_
      walk_at "ws"
      refine (w_nil ?_).toE
      exact ⟨_, fun _ _ z => z, q ⟨fin, ht, hall⟩ _ R x2 (up_ne' hRd upd_same) hR (fun a z => upd_dom (upd_dom z)) fun a o e n => up_ne' n (up_ne' (ne_new e hR) e)⟩
end
end
section
open PySem PySem.W PyProof.Rows
section
variable {H : Hp} {n : Nat} {Q : AV → Hp → Prop} {l : List Nat} {a b c : Nat}
theorem unmatched_ok (hl : l.length ≤ lim) (q : Q (.str (tx (l.drop b))) H) : Body TT (n + 1) (fnOf 50) [("match", .mat (tx l) [(0, b), (a, c)])] H Q := by
  with_reducible refine body_0 (us := [some (.mat (tx l) [(0, b), (a, c)]), none, none]) (by decide +kernel) (by decide +kernel) (by kernel_rfl) ?_
  conv => arg 2; whnf
  walk_at "ws"
  refine f_slTo (b := 0) hl ?_
  walk_at "ws"
  refine f_slFrom hl ?_
  refine f_addT (by rw [List.length_drop, List.length_take]; lia) ?_
  rw [List.take_zero, List.nil_append]
  walk_at "ws"
  exact ⟨H, fun _ _ z => z, q⟩
end
theorem glueL_len (g : List Nat) (m : Nat) : ∀ ps : List (List Nat), (∀ p ∈ ps, p.length ≤ m) → (glueL g ps).length ≤ ps.length * (g.length + m)
  | [], _ => by simp [glueL]
  | x :: r, h => by
    rw [glueL_cons, List.length_append]
    have h1 := h x (List.mem_cons_self ..)
    have h2 : ∀ r : List (List Nat), (∀ p ∈ r, p.length ≤ m) → ((r.map fun p => g ++ p).flatten).length ≤ r.length * (g.length + m) := fun r => by
      induction r with
      | nil => intro _; simp
      | cons y t ih =>
        intro h
        rw [List.map_cons, List.flatten_cons, List.length_append, List.length_append, List.length_cons, Nat.succ_mul]
        have := ih fun p hp => h p (List.mem_cons_of_mem _ hp)
        have := h y (List.mem_cons_self ..)
        lia
    have := h2 r fun p hp => h p (List.mem_cons_of_mem _ hp)
    rw [List.length_cons, Nat.succ_mul]
    lia
theorem sum_len (m : Nat) : ∀ ps : List (List Nat), (∀ p ∈ ps, p.length ≤ m) → ((ps.map tx).map (·.length)).sum ≤ ps.length * m
  | [], _ => by simp
  | x :: r, h => by
    rw [List.map_cons, List.map_cons, List.sum_cons, tx_len, List.length_cons, Nat.succ_mul]
    have := sum_len m r fun p hp => h p (List.mem_cons_of_mem _ hp)
    have := h x (List.mem_cons_self ..)
    lia
theorem s_comma : Str.ofString ", " = tx [44, 32] := by decide +kernel
theorem s_semi : Str.ofString "; " = tx [59, 32] := by decide +kernel
noncomputable def bare (w : List Nat) : AV := .tup [.str (tx w), .none]
noncomputable abbrev jL (ls : List (List (List Nat))) : AObj := .list (((ls.filter (!·.isEmpty)).map (glueL [59, 32])).map fun w => .str (tx w))
inductive J1 (H0 : Hp) (A : Addr) (ls : List (List (List Nat))) (idx : Nat) (H : Hp) : Prop
  | mk (c : H A = some (jL (ls.take idx))) (s : SubH H0 H) : J1 H0 A ls idx H
inductive J2 (H0 : Hp) (A B : Addr) (ls : List (List (List Nat))) (idx : Nat) (l : List (List Nat)) (j : Nat) (H : Hp) : Prop
  | mk (c : H A = some (jL (ls.take idx))) (d : H B = some (.list ((l.take j).map fun w => .str (tx w)))) (s : SubH H0 H) : J2 H0 A B ls idx l j H
end
section
open PySem PySem.W PyProof.Rows
noncomputable abbrev W := List Nat
noncomputable def enc : List (Bool × W) → List Nat
  | [] => []
  | (c, w) :: t => (if c then 44 else 59) :: 32 :: (w ++ enc t)
noncomputable def grp (cur : List W) : List (Bool × W) → List (List W)
  | [] => [cur]
  | (false, w) :: t => grp (cur ++ [w]) t
  | (true, w) :: t => cur :: grp [w] t
noncomputable def Wd (w : W) : Prop := w ≠ [] ∧ ∀ c ∈ w, isSep c = false
theorem sep_space {c : Nat} (h : isSep c = false) : Unicode.isSpace c = false := by
  unfold isSep at h
  exact (Bool.or_eq_false_iff.mp h).2
theorem tw_app {p : Nat → Bool} : ∀ (w r : List Nat), (∀ c ∈ w, p c = true) → (w ++ r).takeWhile p = w ++ r.takeWhile p
  | [], _, _ => rfl
  | c :: w, r, h => by
    rw [List.cons_append, List.takeWhile_cons_of_pos (h c (List.mem_cons_self ..)), tw_app w r fun d hd => h d (List.mem_cons_of_mem _ hd)]
    rfl
theorem enc_tw {p : Nat → Bool} (h1 : p 44 = false) (h2 : p 59 = false) (tl : List (Bool × W)) : (enc tl).takeWhile p = [] := by
  cases tl with
  | nil => rfl
  | cons e t =>
    obtain ⟨c, w⟩ := e
    unfold enc
    cases c
    · rw [if_neg (by decide), List.takeWhile_cons_of_neg (by rw [h2]; decide)]
    · rw [if_pos rfl, List.takeWhile_cons_of_neg (by rw [h1]; decide)]
theorem sp44 : Unicode.isSpace 44 = false := by decide +kernel
theorem sp32 : Unicode.isSpace 32 = true := by decide +kernel
theorem enc_sp {w : W} (h : Wd w) (tl : List (Bool × W)) : (w ++ enc tl).takeWhile Unicode.isSpace = [] := by
  obtain ⟨hn, hs⟩ := h
  cases w with
  | nil => exact absurd rfl hn
  | cons c r => rw [List.cons_append, List.takeWhile_cons_of_neg (by rw [sep_space (hs c List.mem_cons_self)]; decide)]
theorem enc_tok {w : W} (h : Wd w) (tl : List (Bool × W)) : (w ++ enc tl).takeWhile (fun c => !isSep c) = w := by
  rw [tw_app w _ (fun c hc => by rw [h.2 c hc]; rfl), enc_tw (by decide +kernel) (by decide +kernel), List.append_nil]
theorem s_com : Str.ofString "," = tx [44] := by decide +kernel
noncomputable def GoodT (tl : List (Bool × W)) : Prop := ∀ e ∈ tl, Wd e.2
noncomputable def SInv (fin : List (List W)) (text : List Nat) (cur : List W) (res : List (List W)) : Prop :=
  (∃ (sp : Bool) (w : W) (tl : List (Bool × W)), text = (if sp then [32] else []) ++ (w ++ enc tl) ∧ Wd w ∧ GoodT tl ∧ res ++ grp (cur ++ [w]) tl = fin) ∨
  (∃ tl, text = enc tl ∧ GoodT tl ∧ cur ≠ [] ∧ res ++ grp cur tl = fin)
theorem grp_ne (cur : List W) (tl : List (Bool × W)) : 0 < (grp cur tl).length := by
  induction tl generalizing cur with
  | nil => exact Nat.succ_pos _
  | cons e t ih =>
    obtain ⟨c, w⟩ := e
    cases c
    · exact ih _
    · exact Nat.succ_pos _
theorem grp_hd (B : Nat) : ∀ (cur : List W) (tl : List (Bool × W)), (∀ l ∈ grp cur tl, l.length ≤ B) → cur.length ≤ B
  | cur, [], h => h _ (List.mem_singleton.mpr rfl)
  | cur, (false, w) :: t, h => by
    have := grp_hd B (cur ++ [w]) t h
    rw [List.length_append] at this
    exact Nat.le_trans (Nat.le_add_right _ _) this
  | cur, (true, w) :: t, h => h _ (List.mem_cons_self ..)
theorem SInv.bd {fin : List (List W)} {text : List Nat} {cur : List W} {res : List (List W)} (h : SInv fin text cur res) {A B : Nat} (h1 : fin.length ≤ A) (h2 : ∀ l ∈ fin, l.length ≤ B) : res.length < A ∧ cur.length ≤ B := by
  rcases h with ⟨sp, w, tl, _, _, _, rfl⟩ | ⟨tl, _, _, _, rfl⟩
  · have := grp_ne (cur ++ [w]) tl
    rw [List.length_append] at h1
    have h3 := grp_hd B (cur ++ [w]) tl fun l hl => h2 l (List.mem_append_right _ hl)
    rw [List.length_append] at h3
    exact ⟨by lia, by lia⟩
  · have := grp_ne cur tl
    rw [List.length_append] at h1
    exact ⟨by lia, grp_hd B cur tl fun l hl => h2 l (List.mem_append_right _ hl)⟩
theorem SInv.tok {text : List Nat} {sp : Bool} {w : W} {tl : List (Bool × W)} (e : text = (if sp then [32] else []) ++ (w ++ enc tl)) (hw : Wd w) :
    ∃ a t, a = (text.takeWhile Unicode.isSpace).length ∧ t = ((text.drop a).takeWhile fun c => !isSep c).length ∧ 0 < t ∧ text.drop (a + t) = enc tl ∧ (text.drop a).take (a + t - a) = w ∧ a + t ≤ text.length := by
  have hp : 0 < w.length := List.length_pos_iff.mpr hw.1
  cases sp
  · rw [if_neg (by decide), List.nil_append] at e
    subst e
    refine ⟨0, w.length, by rw [enc_sp hw]; rfl, by rw [List.drop_zero, enc_tok hw], hp, by rw [Nat.zero_add, List.drop_left], by rw [Nat.zero_add, List.drop_zero, Nat.sub_zero, List.take_left], by rw [List.length_append]; lia⟩
  · rw [if_pos rfl] at e
    subst e
    refine ⟨1, w.length, by show _ = ((32 :: (w ++ enc tl)).takeWhile Unicode.isSpace).length; rw [List.takeWhile_cons_of_pos sp32, enc_sp hw]; rfl, by show _ = ((w ++ enc tl).takeWhile _).length; rw [enc_tok hw], hp, ?_, ?_, by simp; lia⟩
    · rw [Nat.add_comm]; show (w ++ enc tl).drop w.length = _; rw [List.drop_left]
    · rw [Nat.add_sub_cancel_left]; show (w ++ enc tl).take w.length = _; rw [List.take_left]
end
section
open PySem PySem.W PyProof.Rows
noncomputable abbrev usS (hv r text o p m nm v nj nr : Option AV) : List (Option AV) := [hv, r, text, o, p, m, nm, v, nj, nr]
inductive S1 (H0 : Hp) (A : Addr) (fin : List (List W)) (idx : Nat) (H : Hp) : Prop
  | mk (s : SubH H0 H) (c : idx = 0 → H A = some (.list [])) (d : idx = 1 → H A = some (.list (fin.map fun l => .lst (l.map bare)))) : S1 H0 A fin idx H
inductive S2 (H0 : Hp) (A : Addr) (fin : List (List W)) (m : Nat) (H : Hp) (x : List Nat × Addr) : Prop
  | mk (cur : List W) (res : List (List W)) (hm : m = x.1.length) (hl : x.1.length < 400) (hi : SInv fin x.1 cur res) (c : H A = some (.list (res.map fun l => .lst (l.map bare)))) (d : H x.2 = some (.list (cur.map bare))) (n : A ≠ x.2) (z : H0 x.2 = none) (s : SubH H0 H) : S2 H0 A fin m H x
end
section
open PySem PySem.W PyProof.Rows
structure GW (w : List Nat) : Prop where
  len : w.length ≤ 10
  brk : ∀ c ∈ w, c ≠ 93
  dash : Txt.contains (tx w) (Str.ofString "-") = false
  back : (Builtin.Str.occurrences (tx w) (Str.ofString "\\") 0 (tx w).length ((tx w).length + 1)).isEmpty = true
  sets : w.all (fun c => c != 38 && c != 126 && c != 124) = true
  hd : ∃ c r, w = c :: r ∧ c ≠ 33 ∧ c ≠ 94 ∧ c ≠ 91
theorem s_star : Str.ofString "*" = tx [42] := by decide +kernel
theorem s_ques : Str.ofString "?" = tx [63] := by decide +kernel
theorem s_open : Str.ofString "[" = tx [91] := by decide +kernel
theorem f_strI {σ : St} {l : List Nat} {k c : Nat} {R : AV → Prop} (hk : l[k]? = some c) (hl : l.length ≤ lim) (q : R (.str (tx [c]))) : ∃ v, Su (.str (tx l)) (.int (k : Nat)) σ v ∧ R v := by
  have hlt := (List.getElem?_eq_some_iff.mp hk).1
  refine ⟨_, u_str (k := k) ?_ (by show (l.toArray)[k]? = some c; rw [List.getElem?_toArray]; exact hk), q⟩
  unfold seqIdx
  have : (lim : Nat) = 1000000 := rfl
  rw [tx_len, if_pos ⟨by lia, by lia⟩, if_pos (by lia), if_pos (by lia)]
  congr 1
section
variable {X Y : Prop} {a b : List Nat} {s : String}
theorem brS_f (hs : Str.ofString s = tx b) (h : a ≠ b) (q : Y) : Br (decide (tx a = Str.ofString s)) X Y := br_f (decide_eq_false fun z => h (tx_inj.mp (z.trans hs))) q
end
theorem hd_ne {c d : Nat} (h : c ≠ d) : [c] ≠ [d] := fun z => h (List.cons.inj z).1
theorem j_nil' {fs : FS} {σ : St} {acc y : Str} {Qs : Str → St → Prop} (e : acc = y) (q : Qs y σ) : Wj fs [] acc σ Qs := e ▸ j_nil q
noncomputable abbrev brkS (w : List Nat) : AV := .str (tx (91 :: (w ++ [93])))
inductive T1 (H0 : Hp) (A : Addr) (w : List Nat) (N m : Nat) (H : Hp) (k : Nat) : Prop
  | mk (acc : List AV) (c : H A = some (.list acc)) (s : SubH H0 H) (h : (m = 3 ∧ k = 0 ∧ acc = []) ∨ (m = 2 ∧ k = 1 ∧ acc = [.none]) ∨ (m = 1 ∧ k = 3 + w.length ∧ acc = [.none, brkS w]) ∨ (m = 0 ∧ k = N ∧ acc = [.none, brkS w, .none])) : T1 H0 A w N m H k
inductive T2 (H1 : Hp) (w : List Nat) (m : Nat) (H : Hp) (j : Nat) : Prop
  | mk (e : H = H1) (h2 : 2 ≤ j) (hm : j + m = 2 + w.length) : T2 H1 w m H j
section
variable {H : Hp} {n : Nat} {Q : AV → Hp → Prop}
end
end
section
open PySem PySem.W PyProof.Rows
noncomputable def ck (sc : Scope) (x : Str) : Bool := (sc.names.lookup x == some .cell || sc.names.lookup x == some .free) && !badName x
section
variable {T : Top0} {n : Nat} {sc : Scope} {cells : List (Str × Nat)} {lam : Bool} {H : Hp} {us : List (Option AV)} {x : Str} {v : AV} {p : Pos} {j : Nat} {Q : AV → St → Prop} {Qs : St → Prop}
theorem ck_K (h : ck sc x = true) : (isK ⟨T, n, sc, cells, lam⟩ x .cell || isK ⟨T, n, sc, cells, lam⟩ x .free) = true := by
  obtain ⟨h1, h2⟩ := Bool.and_eq_true_iff.mp h
  refine Bool.or_eq_true_iff.mpr ((Bool.or_eq_true_iff.mp h1).imp (fun z => Bool.and_eq_true_iff.mpr ⟨z, h2⟩) fun z => Bool.and_eq_true_iff.mpr ⟨z, h2⟩)
theorem w_ce (h : ck sc x = true) (hc : cells.lookup x = some j) (hv : H j = some (.cell (some v))) (q : Q v (V ⟨T, n, sc, cells, lam⟩ H us)) : We ⟨T, n, sc, cells, lam⟩ (.Name x p) (V ⟨T, n, sc, cells, lam⟩ H us) Q := w_cell (ck_K (T := T) (lam := lam) h) hc hv q
theorem s_ce {c : Option AV} (h : (sc.names.lookup x == some .cell) = true) (hc : cells.lookup x = some j) (hv : H j = some (.cell c)) (q : Qs (V ⟨T, n, sc, cells, lam⟩ (upd H j (.cell (some v))) us)) : Ws ⟨T, n, sc, cells, lam⟩ x v (V ⟨T, n, sc, cells, lam⟩ H us) Qs := s_cell h hc hv q
end
end
section
open PySem PySem.W PyProof.Rows
structure Gr where
  nodes : List Int
  su : Int → List Int
  pre : Int → List Int
structure GrOk (G : Gr) : Prop where
  nd : G.nodes.Nodup
  snd : ∀ x ∈ G.nodes, (G.su x).Nodup
  pnd : ∀ x ∈ G.nodes, (G.pre x).Nodup
  pm : ∀ x ∈ G.nodes, ∀ j ∈ G.pre x, j ∈ G.nodes
  edge : ∀ x ∈ G.nodes, ∀ k, k ∈ G.su x ↔ k ∈ G.nodes ∧ x ∈ G.pre k
noncomputable def Fr (G : Gr) : Nat → Int → Bool
  | 0, _ => false
  | t + 1, k => (G.pre k).all (Fr G t)
theorem Fr.mono {G : Gr} : ∀ (t : Nat) (k : Int), Fr G t k = true → Fr G (t + 1) k = true
  | 0, _, h => by cases h
  | t + 1, k, h => List.all_eq_true.mpr fun j hj => Fr.mono t j (List.all_eq_true.mp h j hj)
theorem Fr.le {G : Gr} {t t' : Nat} (h : t ≤ t') {k : Int} (e : Fr G t k = true) : Fr G t' k = true := by
  induction h with
  | refl => exact e
  | step _ ih => exact Fr.mono _ _ ih
theorem nd_len' : ∀ (l m : List Int), l.Nodup → (∀ x ∈ l, x ∈ m) → l.length ≤ m.length
  | [], _, _, _ => Nat.zero_le _
  | a :: r, m, h, hs => by
    have hn := List.nodup_cons.mp h
    have ha : a ∈ m := hs a (List.mem_cons_self ..)
    have := nd_len' r (m.erase a) hn.2 fun x hx => (List.mem_erase_of_ne (fun z : x = a => hn.1 (z ▸ hx))).mpr (hs x (List.mem_cons_of_mem _ hx))
    rw [List.length_erase_of_mem ha] at this
    have hp := List.length_pos_of_mem ha
    rw [List.length_cons]
    lia
theorem nd_eq {l m : List Int} (h1 : l.Nodup) (h2 : m.Nodup) (h : ∀ x, x ∈ l ↔ x ∈ m) : l.length = m.length :=
  Nat.le_antisymm (nd_len' l m h1 fun x hx => (h x).mp hx) (nd_len' m l h2 fun x hx => (h x).mpr hx)
theorem dec_all : ∀ (l : List Int) (g : Int → Int) (rd : List Int), l.Nodup → l.foldl dec1 (g, rd) = (fun k => if k ∈ l then g k - 1 else g k, rd ++ l.filter fun s => decide (g s - 1 = 0))
  | [], g, rd, _ => by simp
  | x :: r, g, rd, h => by
    have hn := List.nodup_cons.mp h
    rw [List.foldl_cons]
    have e : dec1 (g, rd) x = (updI g x (g x - 1), if g x - 1 = 0 then rd ++ [x] else rd) := rfl
    rw [e, dec_all r _ _ hn.2]
    refine Prod.ext (funext fun k => ?_) ?_
    · show (if k ∈ r then updI g x (g x - 1) k - 1 else updI g x (g x - 1) k) = if k ∈ x :: r then g k - 1 else g k
      by_cases hk : k = x
      · subst hk
        rw [if_neg hn.1, updI_same, if_pos (List.mem_cons_self ..)]
      · rw [updI_ne hk]
        by_cases hr : k ∈ r
        · rw [if_pos hr, if_pos (List.mem_cons_of_mem _ hr)]
        · rw [if_neg hr, if_neg (by simp [hk, hr])]
    · have ef : r.filter (fun s => decide (updI g x (g x - 1) s - 1 = 0)) = r.filter fun s => decide (g s - 1 = 0) := List.filter_congr fun s hs => by
        rw [updI_ne (fun z : s = x => hn.1 (z ▸ hs))]
      show (if g x - 1 = 0 then rd ++ [x] else rd) ++ r.filter (fun s => decide (updI g x (g x - 1) s - 1 = 0)) = _
      rw [ef]
      by_cases h0 : g x - 1 = 0
      · rw [if_pos h0, List.filter_cons_of_pos (by simpa using h0)]
        simp
      · rw [if_neg h0, List.filter_cons_of_neg (by simpa using h0)]
noncomputable def cnt (su : Int → List Int) (p : List Int) (k : Int) : Nat := (p.filter fun x => decide (k ∈ su x)).length
theorem cnt_snoc (su : Int → List Int) (p : List Int) (x k : Int) : cnt su (p ++ [x]) k = cnt su p k + if k ∈ su x then 1 else 0 := by
  unfold cnt
  rw [List.filter_append, List.length_append]
  by_cases h : k ∈ su x
  · rw [if_pos h, List.filter_cons_of_pos (by simpa using h)]; rfl
  · rw [if_neg h, List.filter_cons_of_neg (by simpa using h)]; rfl
theorem done_all {su : Int → List Int} {np : Int → Int} {r : List Int} (hr : r.Nodup) (hs : ∀ x ∈ r, (su x).Nodup) (hx : ∀ x ∈ r, ∀ s ∈ su x, s ∉ r) (hge : ∀ k, k ∉ r → 0 < cnt su r k → (cnt su r k : Int) ≤ np k) :
    ∀ idx, idx ≤ r.length → (∀ k, ((r.take idx).foldl (done1 su) (np, [])).1 k = if k ∈ r.take idx then -2 else np k - cnt su (r.take idx) k) ∧
      ((r.take idx).foldl (done1 su) (np, [])).2.Nodup ∧ ∀ k, k ∈ ((r.take idx).foldl (done1 su) (np, [])).2 ↔ k ∉ r ∧ 0 < cnt su (r.take idx) k ∧ np k - cnt su (r.take idx) k = 0 := by
  have cz : ∀ p : List Int, (∀ x ∈ p, x ∈ r) → ∀ k ∈ r, cnt su p k = 0 := fun p hp k hk => by
    unfold cnt
    rw [List.length_eq_zero_iff, List.filter_eq_nil_iff]
    intro x hx' z
    exact hx x (hp x hx') k (of_decide_eq_true z) hk
  have cle : ∀ idx k, cnt su (r.take idx) k ≤ cnt su r k := fun idx k => by
    unfold cnt
    exact (((List.take_sublist idx r).filter _).length_le)
  intro idx
  induction idx with
  | zero =>
    intro _
    rw [List.take_zero]
    refine ⟨fun k => ?_, List.nodup_nil, fun k => ?_⟩
    · show np k = if k ∈ [] then _ else np k - ((0 : Nat) : Int)
      simp
    · show k ∈ [] ↔ _
      simp [cnt]
  | succ idx ih =>
    intro hi
    obtain ⟨h1, h2, h3⟩ := ih (by lia)
    have hj : r[idx]? = some r[idx] := List.getElem?_eq_getElem (by lia)
    generalize r[idx] = x at *
    have hxr : x ∈ r := List.mem_of_getElem? hj
    have htk : r.take (idx + 1) = r.take idx ++ [x] := take_succ hj
    have hxt : x ∉ r.take idx := fun z => by
      have := (List.take_sublist (idx + 1) r).nodup hr
      rw [htk] at this
      exact (List.nodup_append.mp this).2.2 x z x (List.mem_singleton.mpr rfl) rfl
    have hsub : ∀ y ∈ r.take (idx + 1), y ∈ r := fun y hy => List.mem_of_mem_take hy
    have hle := cle (idx + 1)
    rw [htk] at *
    rw [List.foldl_append]
    generalize (r.take idx).foldl (done1 su) (np, []) = st at *
    have e : [x].foldl (done1 su) st = (su x).foldl dec1 (updI st.1 x (-2), st.2) := rfl
    rw [e, dec_all _ _ _ (hs x hxr)]
    dsimp only
    have hsx : ∀ s ∈ su x, s ≠ x := fun s h z => hx x hxr s h (z ▸ hxr)
    refine ⟨fun k => ?_, ?_, fun k => ?_⟩
    · by_cases hk : k = x
      · subst hk
        rw [if_neg (fun z => hsx _ z rfl), updI_same, if_pos (by simp)]
      · rw [updI_ne hk, h1 k, cnt_snoc]
        by_cases hp : k ∈ r.take idx
        · rw [if_neg (fun z => hx x hxr k z (hsub k (List.mem_append_left _ hp))), if_pos hp, if_pos (List.mem_append_left _ hp)]
        · have hn2 : k ∉ r.take idx ++ [x] := fun z => (List.mem_append.mp z).elim hp fun z => hk (List.mem_singleton.mp z)
          rw [if_neg hp, if_neg hn2]
          by_cases hs' : k ∈ su x
          · rw [if_pos hs', if_pos hs']; lia
          · rw [if_neg hs', if_neg hs']; lia
    · refine List.nodup_append.mpr ⟨h2, (hs x hxr).filter _, fun a ha b hb hab => ?_⟩
      subst hab
      obtain ⟨a1, a2, a3⟩ := (h3 a).mp ha
      obtain ⟨b1, b2⟩ := List.mem_filter.mp hb
      have ha2 := hge a a1 (by have := hle a; rw [cnt_snoc] at this; lia)
      have := hle a
      rw [cnt_snoc, if_pos b1] at this
      lia
    · rw [List.mem_append, List.mem_filter, h3 k, cnt_snoc]
      have hv : k ∈ su x → updI st.1 x (-2) k = np k - cnt su (r.take idx) k := fun h => by
        rw [updI_ne (hsx k h), h1 k, if_neg fun z => hx x hxr k h (hsub k (List.mem_append_left _ z))]
      constructor
      · rintro (⟨a1, a2, a3⟩ | ⟨b1, b2⟩)
        · refine ⟨a1, by lia, ?_⟩
          by_cases hs' : k ∈ su x
          · exfalso
            have hle' := hle k
            rw [cnt_snoc, if_pos hs'] at hle'
            have := hge k a1 (by lia)
            lia
          · rw [if_neg hs']; lia
        · have b2 := of_decide_eq_true b2
          rw [hv b1] at b2
          refine ⟨hx x hxr k b1, by rw [if_pos b1]; lia, by rw [if_pos b1]; lia⟩
      · rintro ⟨a1, a2, a3⟩
        by_cases hs' : k ∈ su x
        · refine .inr ⟨hs', decide_eq_true ?_⟩
          rw [hv hs']
          rw [if_pos hs'] at a3
          lia
        · rw [if_neg hs'] at a2 a3
          exact .inl ⟨a1, by lia, by lia⟩
structure KI (G : Gr) (t : Nat) (np : Int → Int) (r : List Int) : Prop where
  np : ∀ k ∈ G.nodes, Fr G t k = false → np k = ((G.pre k).filter fun j => !Fr G t j).length
  nd : r.Nodup
  mem : ∀ k, k ∈ r ↔ k ∈ G.nodes ∧ Fr G (t + 1) k = true ∧ Fr G t k = false
theorem allNp_eq (r : List Int) (v : Int) : ∀ (g : Int → Int) (k : Int), allNp g r v k = if k ∈ r then v else g k := by
  unfold allNp
  induction r with
  | nil => intro g k; simp
  | cons a r ih =>
    intro g k
    rw [List.foldl_cons, ih]
    by_cases h : k ∈ r
    · rw [if_pos h, if_pos (List.mem_cons_of_mem _ h)]
    · rw [if_neg h]
      by_cases ha : k = a
      · subst ha; rw [updI_same, if_pos (List.mem_cons_self ..)]
      · rw [updI_ne ha, if_neg (by simp [ha, h])]
theorem filt_split (p q : Int → Bool) (h : ∀ x, q x = true → p x = true) : ∀ l : List Int, (l.filter p).length = (l.filter fun x => p x && !q x).length + (l.filter q).length
  | [] => rfl
  | x :: r => by
    have ih := filt_split p q h r
    cases hp : p x
    · have hq : q x = false := by
        cases hq : q x
        · rfl
        · rw [h x hq] at hp; cases hp
      rw [List.filter_cons_of_neg (by rw [hp]; decide), List.filter_cons_of_neg (by rw [hp, hq]; decide), List.filter_cons_of_neg (by rw [hq]; decide), ih]
    · cases hq : q x
      · rw [List.filter_cons_of_pos hp, List.filter_cons_of_pos (by rw [hp, hq]; rfl), List.filter_cons_of_neg (by rw [hq]; decide), List.length_cons, List.length_cons, ih]
        lia
      · rw [List.filter_cons_of_pos hp, List.filter_cons_of_neg (by rw [hp, hq]; decide), List.filter_cons_of_pos hq, List.length_cons, List.length_cons, ih]
        lia
section
variable {G : Gr} {t : Nat} {np : Int → Int} {r : List Int}
theorem KI.cnt (K : KI G t np r) (O : GrOk G) {k : Int} (hk : k ∈ G.nodes) : cnt G.su r k = ((G.pre k).filter fun j => !Fr G t j && Fr G (t + 1) j).length := by
  unfold Mine.cnt
  refine nd_eq (K.nd.filter _) ((O.pnd k hk).filter _) fun x => ?_
  rw [List.mem_filter, List.mem_filter]
  constructor
  · rintro ⟨h1, h2⟩
    obtain ⟨a, b, c⟩ := (K.mem x).mp h1
    have := ((O.edge x a k).mp (of_decide_eq_true h2)).2
    exact ⟨this, by rw [b, c]; rfl⟩
  · rintro ⟨h1, h2⟩
    obtain ⟨h3, h4⟩ := Bool.and_eq_true_iff.mp h2
    have hx := O.pm k hk x h1
    exact ⟨(K.mem x).mpr ⟨hx, h4, by simpa using h3⟩, decide_eq_true ((O.edge x hx k).mpr ⟨hk, h1⟩)⟩
theorem KI.apart (K : KI G t np r) (O : GrOk G) : ∀ x ∈ r, ∀ s ∈ G.su x, s ∉ r := fun x hx s hs z => by
  obtain ⟨a, b, c⟩ := (K.mem x).mp hx
  obtain ⟨a', b', c'⟩ := (K.mem s).mp z
  have := List.all_eq_true.mp b' x ((O.edge x a s).mp hs).2
  rw [c] at this; cases this
theorem KI.sum (O : GrOk G) {k : Int} : ((G.pre k).filter fun j => !Fr G t j).length = ((G.pre k).filter fun j => !Fr G t j && Fr G (t + 1) j).length + ((G.pre k).filter fun j => !Fr G (t + 1) j).length := by
  have := filt_split (fun j => !Fr G t j) (fun j => !Fr G (t + 1) j) (fun x h => by
    cases hx : Fr G t x
    · rfl
    · rw [Fr.mono t x hx] at h; cases h) (G.pre k)
  simpa using this
theorem KI.ge (K : KI G t np r) (O : GrOk G) : ∀ k, k ∉ r → 0 < Mine.cnt G.su r k → (Mine.cnt G.su r k : Int) ≤ allNp np r (-1) k := fun k hk hc => by
  have hkn : k ∈ G.nodes := by
    unfold Mine.cnt at hc
    obtain ⟨x, hx⟩ := List.exists_mem_of_length_pos hc
    obtain ⟨h1, h2⟩ := List.mem_filter.mp hx
    exact ((O.edge x ((K.mem x).mp h1).1 k).mp (of_decide_eq_true h2)).1
  rw [allNp_eq, if_neg hk]
  have hf : Fr G t k = false := by
    cases hf : Fr G t k
    · rfl
    · exfalso
      unfold Mine.cnt at hc
      obtain ⟨x, hx⟩ := List.exists_mem_of_length_pos hc
      obtain ⟨h1, h2⟩ := List.mem_filter.mp hx
      obtain ⟨a, b, c⟩ := (K.mem x).mp h1
      have h3 := ((O.edge x a k).mp (of_decide_eq_true h2)).2
      have := List.all_eq_true.mp (Fr.mono t k hf) x h3
      rw [c] at this; cases this
  rw [K.np k hkn hf, K.cnt O hkn, KI.sum O]
  lia
theorem KI.out (K : KI G t np r) (O : GrOk G) : ∀ idx k, r[idx]? = some k → ((r.take idx).foldl (done1 G.su) (allNp np r (-1), [])).1 k = -1 := fun idx k hk => by
  have hlt : idx < r.length := (List.getElem?_eq_some_iff.mp hk).1
  have hkr : k ∈ r := List.mem_of_getElem? hk
  obtain ⟨h1, _⟩ := done_all K.nd (fun x hx => O.snd x ((K.mem x).mp hx).1) (K.apart O) (K.ge O) idx (by lia)
  have hnt : k ∉ r.take idx := fun z => by
    have := (List.take_sublist (idx + 1) r).nodup K.nd
    rw [take_succ hk] at this
    exact (List.nodup_append.mp this).2.2 k z k (List.mem_singleton.mpr rfl) rfl
  rw [h1, if_neg hnt, allNp_eq, if_pos hkr]
  have : Mine.cnt G.su (r.take idx) k = 0 := by
    unfold Mine.cnt
    rw [List.length_eq_zero_iff, List.filter_eq_nil_iff]
    intro x hx z
    exact K.apart O x (List.mem_of_mem_take hx) k (of_decide_eq_true z) hkr
  rw [this]; rfl
theorem KI.step (K : KI G t np r) (O : GrOk G) : KI G (t + 1) (r.foldl (done1 G.su) (allNp np r (-1), [])).1 (r.foldl (done1 G.su) (allNp np r (-1), [])).2 := by
  obtain ⟨h1, h2, h3⟩ := done_all K.nd (fun x hx => O.snd x ((K.mem x).mp hx).1) (K.apart O) (K.ge O) r.length (Nat.le_refl _)
  rw [List.take_length] at h1 h2 h3
  refine ⟨fun k hk hf => ?_, h2, fun k => ?_⟩
  · have hft : Fr G t k = false := by
      cases h : Fr G t k
      · rfl
      · rw [Fr.mono t k h] at hf; cases hf
    have hkr : k ∉ r := fun z => by
      have := ((K.mem k).mp z).2.1
      rw [hf] at this; cases this
    rw [h1, if_neg hkr, allNp_eq, if_neg hkr, K.np k hk hft, K.cnt O hk, KI.sum O]
    lia
  · rw [h3 k]
    constructor
    · rintro ⟨a, b, c⟩
      have hkn : k ∈ G.nodes := by
        have b' := b
        unfold Mine.cnt at b'
        obtain ⟨x, hx⟩ := List.exists_mem_of_length_pos b'
        obtain ⟨h1, h2⟩ := List.mem_filter.mp hx
        exact ((O.edge x ((K.mem x).mp h1).1 k).mp (of_decide_eq_true h2)).1
      have hf1 : Fr G (t + 1) k = false := by
        cases hf : Fr G (t + 1) k
        · rfl
        · exfalso
          rw [K.cnt O hkn] at b
          obtain ⟨x, hx⟩ := List.exists_mem_of_length_pos b
          obtain ⟨h1, h2⟩ := List.mem_filter.mp hx
          have := List.all_eq_true.mp hf x h1
          rw [this] at h2; simp at h2
      have hft : Fr G t k = false := by
        cases h : Fr G t k
        · rfl
        · rw [Fr.mono t k h] at hf1; cases hf1
      refine ⟨hkn, ?_, hf1⟩
      rw [allNp_eq, if_neg a, K.np k hkn hft, K.cnt O hkn, KI.sum O] at c
      have hz : ((G.pre k).filter fun j => !Fr G (t + 1) j).length = 0 := by lia
      rw [List.length_eq_zero_iff, List.filter_eq_nil_iff] at hz
      exact List.all_eq_true.mpr fun j hj => by have := hz j hj; simpa using this
    · rintro ⟨a, b, c⟩
      have hft : Fr G t k = false := by
        cases h : Fr G t k
        · rfl
        · rw [Fr.mono t k h] at c; cases c
      have hkr : k ∉ r := fun z => by
        have := ((K.mem k).mp z).2.1
        rw [c] at this; cases this
      have hz : ((G.pre k).filter fun j => !Fr G (t + 1) j).length = 0 := by
        rw [List.length_eq_zero_iff, List.filter_eq_nil_iff]
        intro j hj z
        rw [List.all_eq_true.mp b j hj] at z
        cases z
      have hp : 0 < Mine.cnt G.su r k := by
        rw [K.cnt O a]
        have hex : ∃ j ∈ G.pre k, Fr G t j = false := by
          have : ¬ ∀ j ∈ G.pre k, Fr G t j = true := fun z => by
            rw [show Fr G (t + 1) k = true from List.all_eq_true.mpr z] at c; cases c
          refine Classical.byContradiction fun z => this fun j hj => ?_
          cases h : Fr G t j
          · exact absurd ⟨j, hj, h⟩ z
          · rfl
        obtain ⟨j, hj, hjf⟩ := hex
        refine List.length_pos_of_mem (a := j) (List.mem_filter.mpr ⟨hj, ?_⟩)
        rw [hjf, List.all_eq_true.mp b j hj]; rfl
      refine ⟨hkr, hp, ?_⟩
      rw [allNp_eq, if_neg hkr, K.np k a hft, K.cnt O a, KI.sum O, hz]
      lia
theorem KI.start (O : GrOk G) {np : Int → Int} (h : ∀ k ∈ G.nodes, np k = (G.pre k).length) : KI G 0 np (G.nodes.filter fun k => decide (np k = 0)) := by
  refine ⟨fun k hk _ => ?_, O.nd.filter _, fun k => ?_⟩
  · rw [h k hk, show (G.pre k).filter (fun j => !Fr G 0 j) = G.pre k from List.filter_eq_self.mpr fun j _ => rfl]
  · rw [List.mem_filter]
    constructor
    · rintro ⟨a, b⟩
      have b := of_decide_eq_true b
      rw [h k a] at b
      have : G.pre k = [] := List.length_eq_zero_iff.mp (by lia)
      refine ⟨a, ?_, rfl⟩
      show (G.pre k).all _ = true
      rw [this]; rfl
    · rintro ⟨a, b, _⟩
      refine ⟨a, decide_eq_true ?_⟩
      rw [h k a]
      have : G.pre k = [] := by
        rw [List.eq_nil_iff_forall_not_mem]
        intro j hj
        have := List.all_eq_true.mp b j hj
        cases this
      rw [this]; rfl
end
end
section
open PySem PySem.W PyProof.Rows
noncomputable def addn (ns : List Int) (j : Int) : List Int := if j ∈ ns then ns else ns ++ [j]
theorem addn_mem {ns : List Int} {j x : Int} : x ∈ addn ns j ↔ x ∈ ns ∨ x = j := by
  unfold addn
  by_cases h : j ∈ ns
  · rw [if_pos h]; exact ⟨.inl, fun z => z.elim id fun e => e ▸ h⟩
  · rw [if_neg h, List.mem_append, List.mem_singleton]
theorem addn_nd {ns : List Int} {j : Int} (h : ns.Nodup) : (addn ns j).Nodup := by
  unfold addn
  by_cases hj : j ∈ ns
  · rw [if_pos hj]; exact h
  · rw [if_neg hj]
    exact List.nodup_append.mpr ⟨h, List.nodup_cons.mpr ⟨List.not_mem_nil, .nil⟩, fun a ha b hb e => hj (List.mem_singleton.mp hb ▸ e ▸ ha)⟩
structure Cln (S : PS) : Prop where
  np : ∀ x, x ∉ S.nodes → S.np x = 0
  su : ∀ x, x ∉ S.nodes → S.su x = []
theorem updI_self {β : Type} {g : Int → β} {k : Int} {v : β} (h : g k = v) : updI g k v = g := funext fun x => by
  by_cases e : x = k
  · rw [e, updI_same, h]
  · rw [updI_ne e]
theorem getI_cln {S : PS} (C : Cln S) (j : Int) : S.getI j = ⟨addn S.nodes j, S.np, S.su⟩ := by
  unfold addn
  by_cases h : j ∈ S.nodes
  · rw [PS.getI_in h, if_pos h]
  · rw [PS.getI_out h, if_neg h, updI_self (C.np j h), updI_self (C.su j h)]
theorem Cln.more {S : PS} (C : Cln S) {ns : List Int} (h : ∀ x ∈ S.nodes, x ∈ ns) : Cln ⟨ns, S.np, S.su⟩ := ⟨fun x hx => C.np x fun z => hx (h x z), fun x hx => C.su x fun z => hx (h x z)⟩
theorem fold_any (k : Int) : ∀ (l : List Int) (S : PS), Cln S → l.Nodup → l.foldl (PS.add1 k) S = ⟨l.foldl addn S.nodes, S.np, fun x => if x ∈ l then S.su x ++ [k] else S.su x⟩ ∧ Cln (l.foldl (PS.add1 k) S)
  | [], S, C, _ => by
    refine ⟨?_, C⟩
    obtain ⟨a, b, c⟩ := S
    show PS.mk a b c = ⟨a, b, fun x => if x ∈ ([] : List Int) then c x ++ [k] else c x⟩
    congr 1
  | j :: r, S, C, hn => by
    have h1 := List.nodup_cons.mp hn
    have e : S.add1 k j = ⟨addn S.nodes j, S.np, updI S.su j (S.su j ++ [k])⟩ := by
      unfold PS.add1
      rw [getI_cln C]
    have C1 : Cln ⟨addn S.nodes j, S.np, updI S.su j (S.su j ++ [k])⟩ := by
      refine ⟨fun x hx => C.np x fun z => hx (addn_mem.mpr (.inl z)), fun x hx => ?_⟩
      have h2 : x ≠ j := fun z => hx (addn_mem.mpr (.inr z))
      show updI S.su j _ x = []
      rw [updI_ne h2]; exact C.su x fun z => hx (addn_mem.mpr (.inl z))
    obtain ⟨i1, i2⟩ := fold_any k r _ C1 h1.2
    rw [List.foldl_cons, e]
    refine ⟨i1.trans ?_, i2⟩
    refine congrArg (PS.mk _ _) (funext fun x => ?_)
    show (if x ∈ r then updI S.su j (S.su j ++ [k]) x ++ [k] else updI S.su j (S.su j ++ [k]) x) = if x ∈ j :: r then S.su x ++ [k] else S.su x
    by_cases hx : x = j
    · subst hx
      rw [if_neg h1.1, updI_same, if_pos (List.mem_cons_self ..)]
    · rw [updI_ne hx]
      by_cases hr : x ∈ r
      · rw [if_pos hr, if_pos (List.mem_cons_of_mem _ hr)]
      · rw [if_neg hr, if_neg (by simp [hx, hr])]
theorem foldn_mem {x : Int} : ∀ (l ns : List Int), x ∈ l.foldl addn ns ↔ x ∈ ns ∨ x ∈ l
  | [], ns => by simp
  | j :: r, ns => by
    rw [List.foldl_cons, foldn_mem r, addn_mem, List.mem_cons, or_assoc]
theorem foldn_nd : ∀ (l : List Int) {ns : List Int}, ns.Nodup → (l.foldl addn ns).Nodup
  | [], _, h => h
  | j :: r, _, h => foldn_nd r (addn_nd h)
noncomputable def GT (pr : Nat → List Int) : Nat → PS
  | 0 => ⟨[], fun _ => 0, fun _ => []⟩
  | k + 1 => (GT pr k).add k (pr k)
structure GInv (pr : Nat → List Int) (k : Nat) (S : PS) : Prop where
  cln : Cln S
  nd : S.nodes.Nodup
  mem : ∀ x, x ∈ S.nodes ↔ (0 ≤ x ∧ x < k) ∨ ∃ i, i < k ∧ x ∈ pr i
  np : ∀ x, S.np x = if 0 ≤ x ∧ x < k then ((pr x.toNat).length : Int) else 0
  su : ∀ x, S.su x = ((List.range k).filter fun i => decide (x ∈ pr i)).map fun (j : Nat) => (j : Int)
theorem GT_inv {pr : Nat → List Int} (hp : ∀ i, (pr i).Nodup) : ∀ k, GInv pr k (GT pr k)
  | 0 => by
    refine ⟨⟨fun _ _ => rfl, fun _ _ => rfl⟩, .nil, fun x => ⟨fun z => (List.not_mem_nil z).elim, fun z => ?_⟩, fun x => (if_neg (by lia)).symm, fun x => rfl⟩
    rcases z with z | ⟨i, h, _⟩
    · lia
    · exact absurd h (Nat.not_lt_zero i)
  | k + 1 => by
    have I := GT_inv hp k
    show GInv pr (k + 1) ((GT pr k).add k (pr k))
    generalize GT pr k = S at *
    have e0 : S.add0 k (pr k).length = ⟨addn S.nodes k, updI S.np k ((pr k).length : Int), S.su⟩ := by
      unfold PS.add0
      rw [getI_cln I.cln]
      show PS.mk _ (updI S.np k (S.np k + _)) _ = _
      rw [I.np k, if_neg (by lia), Int.zero_add]
    have C0 : Cln ⟨addn S.nodes k, updI S.np k ((pr k).length : Int), S.su⟩ := by
      refine ⟨fun x hx => ?_, fun x hx => I.cln.su x fun z => hx (addn_mem.mpr (.inl z))⟩
      have h2 : x ≠ k := fun z => hx (addn_mem.mpr (.inr z))
      show updI S.np k _ x = 0
      rw [updI_ne h2]; exact I.cln.np x fun z => hx (addn_mem.mpr (.inl z))
    obtain ⟨e1, C1⟩ := fold_any k (pr k) _ C0 (hp k)
    unfold PS.add
    rw [e0]
    refine ⟨C1, ?_, fun x => ?_, fun x => ?_, fun x => ?_⟩
    · rw [e1]; exact foldn_nd _ (addn_nd I.nd)
    · rw [e1]
      show x ∈ (pr k).foldl addn (addn S.nodes k) ↔ _
      rw [foldn_mem, addn_mem, I.mem]
      constructor
      · rintro (((h | ⟨i, hi, hx⟩) | h) | h)
        · exact .inl (by lia)
        · exact .inr ⟨i, by lia, hx⟩
        · exact .inl (by lia)
        · exact .inr ⟨k, by lia, h⟩
      · rintro (h | ⟨i, hi, hx⟩)
        · by_cases hk : x = k
          · exact .inl (.inr hk)
          · exact .inl (.inl (.inl (by lia)))
        · by_cases hk : i = k
          · subst hk; exact .inr hx
          · exact .inl (.inl (.inr ⟨i, by lia, hx⟩))
    · rw [e1]
      show updI S.np k ((pr k).length : Int) x = _
      by_cases hx : x = k
      · subst hx; rw [updI_same, if_pos (by lia), Int.toNat_natCast]
      · rw [updI_ne hx, I.np x]
        by_cases h : 0 ≤ x ∧ x < (k : Int)
        · rw [if_pos h, if_pos (by lia)]
        · rw [if_neg h, if_neg (by lia)]
    · rw [e1]
      show (if x ∈ pr k then S.su x ++ [(k : Int)] else S.su x) = _
      rw [I.su x, List.range_succ, List.filter_append, List.map_append]
      by_cases hx : x ∈ pr k
      · rw [if_pos hx, List.filter_cons_of_pos (by simpa using hx)]; rfl
      · rw [if_neg hx, List.filter_cons_of_neg (by simpa using hx)]; simp
noncomputable def G5 (pr : Nat → List Int) : Gr := ⟨(GT pr 5).nodes, (GT pr 5).su, fun x => pr x.toNat⟩
section
variable {pr : Nat → List Int}
structure PrOk (pr : Nat → List Int) : Prop where
  nd : ∀ i, (pr i).Nodup
  mem : ∀ i, ∀ x ∈ pr i, 0 ≤ x ∧ x < 5
theorem G5_mem (O : PrOk pr) {x : Int} : x ∈ (G5 pr).nodes ↔ 0 ≤ x ∧ x < 5 := by
  show x ∈ (GT pr 5).nodes ↔ _
  rw [(GT_inv O.nd 5).mem]
  exact ⟨fun z => z.elim id fun ⟨i, _, h⟩ => O.mem i x h, .inl⟩
theorem G5_ok (O : PrOk pr) : GrOk (G5 pr) := by
  have I := GT_inv O.nd 5
  refine ⟨I.nd, fun x hx => ?_, fun x hx => O.nd _, fun x hx j hj => (G5_mem O).mpr (O.mem _ j hj), fun x hx k => ?_⟩
  · show ((GT pr 5).su x).Nodup
    rw [I.su]
    exact List.pairwise_map.mpr ((List.nodup_range.filter _).imp fun h e => h (by lia))
  · show k ∈ (GT pr 5).su x ↔ _
    rw [I.su, G5_mem O, List.mem_map]
    show _ ↔ _ ∧ x ∈ pr k.toNat
    constructor
    · rintro ⟨i, hi, rfl⟩
      obtain ⟨a, b⟩ := List.mem_filter.mp hi
      have := List.mem_range.mp a
      exact ⟨by lia, by rw [Int.toNat_natCast]; exact of_decide_eq_true b⟩
    · rintro ⟨⟨a, b⟩, c⟩
      exact ⟨k.toNat, List.mem_filter.mpr ⟨List.mem_range.mpr (by lia), decide_eq_true c⟩, by lia⟩
theorem G5_len (O : PrOk pr) : (G5 pr).nodes.length = 5 := by
  have h : (G5 pr).nodes.length = ((List.range 5).map fun (j : Nat) => (j : Int)).length := nd_eq (G5_ok O).nd (List.pairwise_map.mpr (List.nodup_range.imp fun h e => h (by lia))) fun x => by
    rw [G5_mem O, List.mem_map]
    constructor
    · intro h; exact ⟨x.toNat, List.mem_range.mpr (by lia), by lia⟩
    · rintro ⟨j, hj, rfl⟩; have := List.mem_range.mp hj; lia
  rw [h]; rfl
end
section
variable {G : Gr}
noncomputable def unfr (G : Gr) (t : Nat) : Nat := (G.nodes.filter fun k => !Fr G t k).length
theorem unfr_le (t : Nat) : unfr G (t + 1) ≤ unfr G t := by
  have := filt_split (fun k => !Fr G t k) (fun k => !Fr G (t + 1) k) (fun x h => by
    cases hx : Fr G t x
    · rfl
    · rw [Fr.mono t x hx] at h; cases h) G.nodes
  unfold unfr; lia
theorem filt_same {p q : Int → Bool} : ∀ {l : List Int}, (∀ x ∈ l, q x = true → p x = true) → (l.filter p).length = (l.filter q).length → ∀ x ∈ l, p x = q x
  | [], _, _, x, h => nomatch h
  | a :: r, h, e, x, hx => by
    have hr : ∀ x ∈ r, q x = true → p x = true := fun x hx => h x (List.mem_cons_of_mem _ hx)
    have le : ∀ {l : List Int}, (∀ x ∈ l, q x = true → p x = true) → (l.filter q).length ≤ (l.filter p).length := fun {l} h => by
      induction l with
      | nil => exact Nat.le_refl _
      | cons b l ih =>
        have ih := ih fun x hx => h x (List.mem_cons_of_mem _ hx)
        have hb := h b List.mem_cons_self
        cases hq : q b
        · rw [List.filter_cons_of_neg (by rw [hq]; decide)]
          cases hp : p b
          · rw [List.filter_cons_of_neg (by rw [hp]; decide)]; exact ih
          · rw [List.filter_cons_of_pos hp, List.length_cons]; lia
        · rw [List.filter_cons_of_pos hq, List.filter_cons_of_pos (hb hq), List.length_cons, List.length_cons]; lia
    have l := le hr
    have hpa : p a = q a := by
      cases hq : q a
      · cases hp : p a
        · rfl
        · rw [List.filter_cons_of_pos hp, List.filter_cons_of_neg (by rw [hq]; decide), List.length_cons] at e; lia
      · exact h a List.mem_cons_self hq
    rcases List.mem_cons.mp hx with rfl | hx
    · exact hpa
    · refine filt_same hr ?_ x hx
      cases hq : q a
      · rw [List.filter_cons_of_neg (by rw [hpa, hq]; decide), List.filter_cons_of_neg (by rw [hq]; decide)] at e; exact e
      · rw [List.filter_cons_of_pos (hpa.trans hq), List.filter_cons_of_pos hq, List.length_cons, List.length_cons] at e; lia
noncomputable def Stb (G : Gr) (t : Nat) : Prop := ∀ k ∈ G.nodes, Fr G (t + 1) k = Fr G t k
theorem Stb.next (O : GrOk G) {t : Nat} (h : Stb G t) : Stb G (t + 1) := fun k hk => by
  show (G.pre k).all (Fr G (t + 1)) = (G.pre k).all (Fr G t)
  rw [Bool.eq_iff_iff, List.all_eq_true, List.all_eq_true]
  exact ⟨fun a j hj => (h j (O.pm k hk j hj)) ▸ a j hj, fun a j hj => (h j (O.pm k hk j hj)).symm ▸ a j hj⟩
theorem Stb.all (O : GrOk G) {t : Nat} (h : Stb G t) : ∀ d, ∀ k ∈ G.nodes, Fr G (t + d) k = Fr G t k := fun d => by
  have hs : ∀ d, Stb G (t + d) := fun d => by
    induction d with
    | zero => exact h
    | succ d ih => exact ih.next O
  induction d with
  | zero => exact fun _ _ => rfl
  | succ d ih => exact fun k hk => (hs d k hk).trans (ih k hk)
theorem stb_of {t : Nat} (h : unfr G (t + 1) = unfr G t) : Stb G t := fun k hk => by
  have e := filt_same (p := fun k => !Fr G t k) (q := fun k => !Fr G (t + 1) k) (l := G.nodes) (fun x _ h => by
    cases hx : Fr G t x
    · rfl
    · rw [Fr.mono t x hx] at h; cases h) h.symm k hk
  have e : (!Fr G t k) = !Fr G (t + 1) k := e
  revert e
  cases Fr G t k <;> cases Fr G (t + 1) k <;> intro e <;> first | rfl | exact nomatch e
theorem stb_len (O : GrOk G) : Stb G G.nodes.length := by
  have h : ∀ t, (∃ u, u ≤ t ∧ Stb G u) ∨ unfr G (t + 1) + (t + 1) ≤ G.nodes.length := fun t => by
    induction t with
    | zero =>
      by_cases e : unfr G 1 = unfr G 0
      · exact .inl ⟨0, Nat.le_refl _, stb_of e⟩
      · have h1 := unfr_le (G := G) 0
        have h2 : unfr G 0 ≤ G.nodes.length := List.length_filter_le _ _
        exact .inr (by lia)
    | succ t ih =>
      rcases ih with ⟨u, hu, h⟩ | ih
      · exact .inl ⟨u, by lia, h⟩
      · by_cases e : unfr G (t + 2) = unfr G (t + 1)
        · exact .inl ⟨t + 1, Nat.le_refl _, stb_of e⟩
        · have h1 := unfr_le (G := G) (t + 1)
          exact .inr (by lia)
  rcases h G.nodes.length with ⟨u, hu, h⟩ | h
  · obtain ⟨d, hd⟩ := Nat.exists_eq_add_of_le hu
    intro k hk
    rw [hd, Nat.add_assoc, h.all O _ k hk, h.all O _ k hk]
  · lia
theorem cyc_not (O : GrOk G) {C : List Int} (hC : ∀ x ∈ C, x ∈ G.nodes) (h : ∀ x ∈ C, ∃ y ∈ C, x ∈ G.su y) : ∀ t, ∀ x ∈ C, Fr G t x = false := fun t => by
  induction t with
  | zero => exact fun _ _ => rfl
  | succ t ih =>
    intro x hx
    obtain ⟨y, hy, hxy⟩ := h x hx
    have hp := ((O.edge y (hC y hy) x).mp hxy).2
    cases e : Fr G (t + 1) x
    · rfl
    · exact ff ((ih y hy).symm.trans (List.all_eq_true.mp e y hp))
theorem cyc_of (O : GrOk G) {t : Nat} (hs : Stb G t) {x : Int} (hx : x ∈ G.nodes) (hf : Fr G t x = false) : ∃ C : List Int, C ≠ [] ∧ (∀ x ∈ C, x ∈ G.nodes) ∧ ∀ x ∈ C, ∃ y ∈ C, x ∈ G.su y := by
  refine ⟨G.nodes.filter fun k => !Fr G t k, fun z => ?_, fun y hy => (List.mem_filter.mp hy).1, fun y hy => ?_⟩
  · have : x ∈ G.nodes.filter fun k => !Fr G t k := List.mem_filter.mpr ⟨hx, by rw [hf]; rfl⟩
    rw [z] at this; exact nomatch this
  · obtain ⟨h1, h2⟩ := List.mem_filter.mp hy
    have h3 : ¬ ∀ j ∈ G.pre y, Fr G t j = true := fun z => by
      have : Fr G (t + 1) y = true := List.all_eq_true.mpr z
      rw [hs y h1] at this
      rw [this] at h2; cases h2
    obtain ⟨j, hj, hjf⟩ : ∃ j ∈ G.pre y, Fr G t j = false := by
      refine Classical.byContradiction fun z => h3 fun j hj => ?_
      cases e : Fr G t j
      · exact absurd ⟨j, hj, e⟩ z
      · rfl
    have hjn := O.pm y h1 j hj
    exact ⟨j, List.mem_filter.mpr ⟨hjn, by rw [hjf]; rfl⟩, (O.edge j hjn y).mpr ⟨h1, hj⟩⟩
theorem topo_su {su : Int → List Int} {b : List Int} (t : Topo su b) : ∀ y ∈ b, ∀ j ∈ su y, j ∈ b := by
  induction t with
  | nil => exact fun y h => nomatch h
  | cons h hn t ih =>
    intro y hy j hj
    rcases List.mem_cons.mp hy with rfl | hy
    · exact List.mem_cons_of_mem _ (h j hj)
    · exact List.mem_cons_of_mem _ (ih y hy j hj)
theorem topo_acyc {su : Int → List Int} {fin : List Int} (t : Topo su fin) : ∀ C : List Int, C ≠ [] → (∀ x ∈ C, x ∈ fin) → (∀ x ∈ C, ∃ y ∈ C, x ∈ su y) → False := by
  induction t with
  | nil =>
    intro C hC h _
    cases C with
    | nil => exact hC rfl
    | cons x r => exact nomatch h x List.mem_cons_self
  | @cons u b h hn t ih =>
    intro C hC hm hc
    have hu : u ∉ C := fun hu => by
      obtain ⟨y, hy, huy⟩ := hc u hu
      rcases List.mem_cons.mp (hm y hy) with rfl | hyb
      · exact hn (h _ huy)
      · exact hn (topo_su t y hyb u huy)
    exact ih C hC (fun x hx => (List.mem_cons.mp (hm x hx)).resolve_left fun e => hu (e ▸ hx)) hc
noncomputable def sd (G : Gr) : Nat → Int → Bool
  | 0, _ => false
  | t + 1, k => !((G.pre k).any (sd G t))
theorem any_congr {p q : Int → Bool} : ∀ {l : List Int}, (∀ x ∈ l, p x = q x) → l.any p = l.any q
  | [], _ => rfl
  | a :: r, h => by rw [List.any_cons, List.any_cons, h a List.mem_cons_self, any_congr fun x hx => h x (List.mem_cons_of_mem _ hx)]
theorem sd_fix : ∀ (t : Nat) (k : Int), Fr G t k = true → ∀ d, sd G (t + d) k = sd G t k
  | 0, _, h, _ => ff h
  | t + 1, k, h, d => by
    rw [Nat.add_right_comm]
    show (!((G.pre k).any (sd G (t + d)))) = !((G.pre k).any (sd G t))
    rw [any_congr fun j hj => sd_fix t j (List.all_eq_true.mp h j hj) d]
theorem ker_sd {b : Int → Bool} (h : ∀ k ∈ G.nodes, b k = !((G.pre k).any b)) (O : GrOk G) : ∀ (t : Nat), ∀ k ∈ G.nodes, Fr G t k = true → b k = sd G t k
  | 0, _, _, h => ff h
  | t + 1, k, hk, hf => by
    rw [h k hk]
    show _ = !((G.pre k).any (sd G t))
    rw [any_congr fun j hj => ker_sd h O t j (O.pm k hk j hj) (List.all_eq_true.mp hf j hj)]
end
end
section
open PySem PySem.W PyProof.Rows PySem.Calls PySem.SeqAt Builtin Builtin.Str
section
variable {prog : Program} {w : World} {A : Around} {E : Value → Shared → Prop} {s : Shared}
theorem pcQ {y : PySem.Str} {t u : Tok} {Q : Value → Shared → Prop} (hl : y.length ≤ 1000000)
    (h : ∀ t' k, Q (.str (("\"" : Str) ++ y ++ ("\"" : Str)) t') { s with toks := k }) : wpAny (model prog w) A (binaryOp .Mod (.str ("\"%s\"" : Str) t) (.str y u)) Q E s := by
  refine' KPc.mod_str ?kpcF hl ?kpcm ?_
  case kpcF => kpc_eq
  case kpcm => k_dflt kpc_run_s
  intro t' k
  exact h t' k
end
end
section
open PySem PySem.W PyProof.Rows PySem.Calls PySem.SeqAt
section
variable {Φ : Fm} {fs : FS} {σ : St} {P P' : Pt} {v w fv ov : AV} {x g : Value} {vs ws : List AV} {xs ys : List Value} {n u : Nat} {i j : Int} {s t : Str} {l : Addr} {Q : AV → St → Prop} {ss : List Str} {ns : List Int} {bs : List Bool} {R : AV → Prop}
theorem o_pcQ (h : s.length ≤ 100000) : Bop .Mod (.str "\"%s\"") (.str s) σ (.str (("\"" : Str) ++ s ++ ("\"" : Str))) := fun Φ P x y _ ok ra rb Q E k => ra.eS fun t => rb.eS fun u => pcQ (by lia) fun t' tk => k P.s.heap tk _ (fun _ _ e => e) (.str _ _)
theorem o_shr (h1 : 0 ≤ i) (h2 : i < 32) (h3 : 0 ≤ j) (h4 : j < 5) : Bop .RShift (.int i) (.int j) σ (.int (i.fdiv (2 ^ j.toNat))) := op_int fun Φ P u w Q E q => by
  by_cases hc : j ≥ ((Builtin.Int.intBits i : Nat) : Int)
  · refine AutoIntOps.rshift_1 (by lia) hc ?_
    have e : (if i < 0 then -1 else 0 : Int) = i.fdiv (2 ^ j.toNat) := by
      have key : ∀ a : Nat, a < 32 → ∀ b : Nat, b < 5 → (b : Int) ≥ ((Builtin.Int.intBits (a : Int) : Nat) : Int) → (if (a : Int) < 0 then -1 else 0 : Int) = (a : Int).fdiv (2 ^ b) := by decide +kernel
      have := key i.toNat (by lia) j.toNat (by lia)
      rw [Int.toNat_of_nonneg h1, Int.toNat_of_nonneg h3] at this
      exact this hc
    rw [e]
    exact q _ _ _ (fun _ _ e => e) (.int _ _)
  · exact AutoIntOps.rshift_2 (by lia) hc (q _ _ _ (fun _ _ e => e) (.int _ _))
theorem o_and : Bop .BitAnd (.int i) (.int j) σ (.int (Builtin.bitAnd i j)) := op_int fun Φ P u w Q E q => PyProof.Rows.and_int (q _ _ _ (fun _ _ e => e) (.int _ _))
theorem o_pow2 (h3 : 0 ≤ j) (h4 : j < 5) : Bop .Pow (.int 2) (.int j) σ (.int (2 ^ j.toNat)) := op_int fun Φ P u w Q E q => by
  by_cases h0 : j = 0
  · subst h0
    exact AutoIntOps.pow_0 (by decide) (by decide) (q _ _ _ (fun _ _ e => e) (.int _ _))
  · refine AutoIntOps.pow_4 (by lia) (by simpa using h0) (by decide) (by decide) ?_ (q _ _ _ (fun _ _ e => e) (.int _ _))
    have key : ∀ b : Nat, b < 5 → ¬ Builtin.Int.intTooBig (((Builtin.Int.intBits 2 : Nat) : Int) * (b : Int)) = true := by decide +kernel
    have := key j.toNat (by lia)
    rwa [Int.toNat_of_nonneg h3] at this
theorem i_boolN {c d : Bool} : Cmp .IsNot (.bool c) (.bool d) σ (!(c == d)) := fun Φ P x y _ ok ra rb => .same fun Q E k => ra.eB (rb.eB (wpAny_isNot_plain rfl ((show (!((.bool c : Value) == .bool d)) = !(c == d) by cases c <;> cases d <;> rfl) ▸ k _ fun _ _ => .bool _)))
theorem bu_all : Q (.bool (bs.all id)) σ → Ac fs (.con (.builtin "all")) [.lst (bs.map .bool)] σ Q := ac1 fun Φ P x F ok r Q E k => r.eL fun l its hl _ q => by
  have hB := boolsAre q
  have hlt : l < P.s.heap.objs.size := let ⟨_, e, _⟩ := hl; Heap.lt_size e
  refine call_all_walk (wpAny_pyIter_list hl ?_)
  refine ⟨P.s.heap.objs.size, [P.s.heap.objs.size, l], [P.s.heap.objs.size], its.size, _, _, fun i => (bs[i]?).getD true, rfl, Walks.list (A := Φ.A.in1) F.handled _ l (Nat.ne_of_lt hlt) its,
    ⟨⟨_, Heap.get?_push_size _ rfl, rfl, rfl⟩, hl.push _⟩, fun i v s' Q' E' hP hQ => ?_, fun h' tk hk => ?_⟩
  · obtain ⟨b, e, rfl⟩ := hB.get i v (by rw [Array.getElem?_toList]; exact hP)
    simp only [e, Option.getD_some] at hQ
    exact wpAny_truthy_bool hQ
  · rw [show ((List.range its.size).all fun i => (bs[i]?).getD true) = bs.all id by rw [← Array.length_toList, hB.length]; exact LSm.range_all bs]
    exact k h' tk _ (LSm.kept_iter hk) (.bool _)
theorem preSum_eq (f : Nat → Int) : ∀ n : Nat, preSum f n = ((List.range n).map f).sum
  | 0 => rfl
  | n + 1 => by
    rw [List.range_succ, List.map_append, List.sum_append, ← preSum_eq f n]
    show preSum f n + f n = preSum f n + (f n + 0)
    rw [Int.add_zero]
theorem getD_map_range : ∀ ns : List Int, (List.range ns.length).map (fun i => ns.getD i 0) = ns
  | [] => rfl
  | a :: l => by
    rw [List.length_cons, List.range_succ_eq_map, List.map_cons, List.map_map]
    exact congrArg (a :: ·) (getD_map_range l)
theorem bu_sum (hb : ∀ a ∈ ns, 0 ≤ a ∧ a ≤ 100) (hl : ns.length ≤ 100) : Q (.int ns.sum) σ → Ac fs (.con (.builtin "sum")) [.lst (ns.map .int)] σ Q := ac1 fun Φ P x F ok r Q E k => r.eL fun l its hl' _ q => by
  obtain ⟨xs, rfl, hx⟩ := intItems_of (intsAre q)
  have hlen : xs.size = ns.length := by have := congrArg List.length hx; simpa using this
  have hat : ∀ i, numAt xs i = ns.getD i 0 := fun i => by rw [← hx, numAt_eq]
  have hps : ∀ n, n ≤ ns.length → preSum (numAt xs) n = (ns.take n).sum := fun n hn => by
    rw [preSum_eq]
    conv => rhs; rw [← getD_map_range (ns.take n)]
    rw [List.length_take, Nat.min_eq_left hn]
    exact congrArg List.sum (List.map_congr_left fun i hi => by
      have hi := List.mem_range.mp hi
      rw [hat i, List.getD_eq_getElem?_getD, List.getD_eq_getElem?_getD, List.getElem?_take_of_lt hi])
  have bd : ∀ (l : List Int) , (∀ a ∈ l, 0 ≤ a ∧ a ≤ 100) → 0 ≤ l.sum ∧ l.sum ≤ 100 * l.length := fun l => by
    induction l with
    | nil => intro _; exact ⟨by decide, by decide⟩
    | cons a r ih =>
      intro h
      have := ih fun b hb => h b (List.mem_cons_of_mem _ hb)
      have := h a List.mem_cons_self
      rw [List.sum_cons, List.length_cons]
      lia
  refine sum_intList F.handled hl' (fun j hj => ?_) fun h' tk t' hk => ?_
  · have hj' : j < ns.length := by lia
    have h1 := hb (ns.getD j 0) (by rw [List.getD_eq_getElem?_getD, List.getElem?_eq_getElem hj']; exact List.getElem_mem hj')
    have h2 := bd (ns.take (j + 1)) fun a ha => hb a (List.mem_of_mem_take ha)
    have h3 : (ns.take (j + 1)).length ≤ 100 := by rw [List.length_take]; lia
    rw [hps (j + 1) (by lia), hat j]
    exact ⟨⟨by lia, by lia⟩, ⟨by lia, by lia⟩⟩
  · rw [hlen, hps _ (Nat.le_refl _), List.take_length]
    exact k h' tk _ hk (.int _ _)
theorem bu_range2 : Q (.rng i j) σ → Ac fs (.con (.type "range")) [.int i, .int j] σ Q := ac2 fun Φ P x y F ok r r' Q E k => r.eI fun t => r'.eI fun u => call_range_2 (k _ _ _ (keep_push _ _) (.rng (IsRange.new P.s.heap i j 1 _ _ _) (im_push rfl)))
noncomputable def natsFrom (a : Int) (n : Nat) : List Int := (List.range n).map fun (k : Nat) => a + (k : Int)
theorem m_getD {es : List (Int × AV)} {ep : Nat} (h : σ.H l = some (.dictI es ep)) : Q ((es.lookup i).getD v) σ → Ac fs (.con (.builtin "dict.get")) [.con (.ref l), .int i, v] σ Q := Ac.lf fun Φ P g xs F ok r rs Q E k => r.eC (rs.eC fun x1 _ r1 rs => r1.eC (rs.e2 fun x2 x3 r2 r3 => r2.eI fun t => by
  obtain ⟨o, e, kvs, hd, hk⟩ := ok.obj h
  have hm := (hd.at e).dictOf.mapOf
  refine call_meetsIn PySem.F.slot_dict_get hm.typeIs PySem.F.entry_dict_get (PySem.F.args_dict_get_3 _ _ _) (meets_dict_get_default (intKind Φ.C.prog Φ.C.w) l (intKind_is _ _ i _) (ok.noSys h) x3) ⟨_, hm, ?_⟩
  exact k _ _ _ (fun _ _ e => e) ((get_at' hk r3).le (up_le fun _ _ e => e))))
theorem small_at {a b : Int} (h0 : 0 ≤ a) (h1 : a ≤ 100) (h2 : 0 ≤ b) (h3 : b ≤ 100) : Builtin.Range.small a b 1 = true := by
  have key : ∀ a : Nat, a ≤ 100 → ∀ b : Nat, b ≤ 100 → Builtin.Range.small (a : Int) (b : Int) 1 = true := by decide +kernel
  have := key a.toNat (by lia) b.toNat (by lia)
  rwa [Int.toNat_of_nonneg h0, Int.toNat_of_nonneg h2] at this
theorem bu_listR {n : Nat} (h0 : 0 ≤ i) (h1 : i ≤ 100) (hn : i + n ≤ 100) : (∀ a, σ.H a = none → Q (.con (.ref a)) (σ.set a (.list ((natsFrom i n).map .int)))) → Ac fs (.con (.type "list")) [.rng i (i + n)] σ Q := Ac.add fun Φ P g xs K E F ok r rs k => r.eC (rs.e1 fun x r => r.eR fun r0 t u v hr _ => by
  refine call_list_range F.handled hr (small_at h0 h1 (by lia) hn) (n := n) (by rw [rangeSize_one]; lia) (by lia) fun h' tk acc' c' hk hD hacc => k _ h' _ (Nat.le_refl _) hk hD ⟨acc', c', rfl, ?_⟩ tk
  have hl : acc'.toList.length = n := by rw [Array.length_toList]; exact hacc.1
  have go : ∀ (l : List Value) (m : Nat) (a : Int), l.length = m → (∀ (j : Nat) (v : Value), l[j]? = some v → ∃ t, v = Value.int (a + (j : Int)) t) → VRs P ((natsFrom a m).map AV.int) l := fun l => by
    induction l with
    | nil => intro m a e _; subst e; exact .nil
    | cons x r ih =>
      intro m a e hv
      subst e
      obtain ⟨t, rfl⟩ := hv 0 x rfl
      have e1 : natsFrom a (r.length + 1) = a :: natsFrom (a + 1) r.length := by
        unfold natsFrom
        rw [List.range_succ_eq_map, List.map_cons, List.map_map]
        rw [show a + ((0 : Nat) : Int) = a by lia]
        refine congrArg (a :: ·) (List.map_congr_left fun k _ => ?_)
        show a + ((k + 1 : Nat) : Int) = a + 1 + (k : Int)
        lia
      rw [List.length_cons, e1, List.map_cons]
      refine .cons (by rw [show a + ((0 : Nat) : Int) = a by lia]; exact .int _ _) (ih _ _ rfl fun j v e => ?_)
      obtain ⟨t, rfl⟩ := hv (j + 1) v e
      exact ⟨t, congrArg (Value.int · t) (by lia)⟩
  refine go _ _ _ hl fun j v e => ?_
  obtain ⟨t, rfl⟩ := hacc.2 j v (by rw [← Array.getElem?_toList]; exact e)
  exact ⟨t, congrArg (Value.int · t) (by lia)⟩)
theorem bu_sortedD {es : List (Int × AV)} {ep : Nat} (h : σ.H l = some (.dictI es ep)) (hn : es.length ≤ 60) {ms : List Int} (hm : ms.Perm (es.map (·.1))) (hs : ms.Pairwise (· ≤ ·)) : Q (.lst (ms.map .int)) σ → Ac fs (.con (.builtin "sorted")) [.con (.ref l)] σ Q := ac1 fun Φ P x F ok r Q E k => r.eC (by
  obtain ⟨o, e, kvs, hd, hk⟩ := ok.obj h
  have hlen : kvs.length = es.length := by have := congrArg List.length hk.1; simpa using this.symm
  refine call_function_entry kind_sorted plain_sorted entry_sorted (args_sorted1 _) ?_
  unfold Builtin.«sorted»
  refine wpAny_bind (m := checkCount "sorted" 1 1 _) (wpAny_pure ?_)
  refine wpAny_bind (kdu_collect (A := Φ.A.in1) (kdl_dict (knd := intKind Φ.C.prog Φ.C.w) (kvs := kvs) (ep := ep) (ok.noSys h)) F.handled (hd.at e) (by rw [hlen]; exact lim_size (by walk_at "lm")) fun h' tk acc hk' hacc => ?_)
  have hl : acc.toList.length = kvs.length := by rw [Array.length_toList]; exact hacc.1
  refine wpAny_bind (wpAny_newList ?_ (by rw [hl, hlen]; exact lim_size (by walk_at "lm")))
  have hI : IntsAre acc.toList (kvs.map (·.1)) := by
    have go : ∀ (l : List Value) (ks : List (Int × Value)), l.length = ks.length → (∀ (j : Nat) (v : Value), l[j]? = some v → ∃ k x, ks[j]? = some (k, x) ∧ (intKind Φ.C.prog Φ.C.w).is k v = true) → IntsAre l (ks.map (·.1)) := fun l => by
      induction l with
      | nil => intro ks e _; cases ks with
        | nil => exact .nil
        | cons _ _ => exact nomatch e
      | cons x r ih =>
        intro ks e hv
        cases ks with
        | nil => exact nomatch e
        | cons p ks =>
          obtain ⟨k, y, e1, e2⟩ := hv 0 x rfl
          obtain rfl : p = (k, y) := smj e1
          have e2 : Value.isInt k x = true := e2
          have : ∃ t, x = .int k t := by
            cases x with
            | int i t => exact ⟨t, congrArg (Value.int · t) (by simpa [Value.isInt] using e2)⟩
            | _ => exact nomatch e2
          obtain ⟨t, rfl⟩ := this
          exact .cons _ _ (ih ks (Nat.succ.inj e) fun j v e => hv (j + 1) v e)
    exact go _ _ hl fun j v e => hacc.2 j v (by rw [← Array.getElem?_toList]; exact e)
  have hoL : (h'.push (seqObj "list" acc.toList.toArray 0)).get? h'.objs.size = some (seqObj "list" acc.toList.toArray 0) := Heap.get?_push_size _ rfl
  refine wpAny_bind (wpAny_holding (wpAny_call_entry slot_list_sort ⟨_, hoL, rfl⟩ entry_list_sort (list_sort_tree hoL hI (by rw [hl, hlen]; lia) fun out ns' a1 a2 a3 => ⟨_, rfl, ?_⟩) (args_list_sort _)))
  refine wpAny_pure ⟨_, rfl, ?_⟩
  obtain ⟨ep', he⟩ := sortedHeap_at (out := out) hoL
  have hms : ns' = ms := by
    refine List.Perm.eq_of_pairwise (fun a b _ _ h1 h2 => Int.le_antisymm h1 h2) a3 hs ((a2.trans ?_).trans hm.symm)
    rw [hk.1]
  subst hms
  exact k _ _ _ (fun b o hb => (sortedHeap_old (Nat.ne_of_lt (Heap.lt_size (hk' b o hb))) (Nat.lt_of_lt_of_eq (Nat.lt_succ_of_lt (Heap.lt_size (hk' b o hb))) (Heap.size_push ..).symm)).trans (keep_push _ _ b o (hk' b o hb)))
    (.lst ⟨_, he, rfl, ep', rfl⟩ (im_new (none_keeps hk') he) (by
      have : ∀ {xs : List Value} {ns : List Int}, IntsAre xs ns → ∀ P, VRs P (ns.map .int) xs := fun {xs ns} h P => by
        induction h with
        | nil => exact .nil
        | cons n t _ ih => exact .cons (.int _ _) ih
      exact this a1 _)))
end
end
section
open PySem PySem.W PyProof.Rows
theorem dl_upd {H : Hp} {A : Addr} {o : AObj} (h : H A = none) : dl (upd H A o) A = H := funext fun b => by
  by_cases e : b = A
  · rw [e, h]; exact if_pos rfl
  · exact (if_neg e).trans (upd_ne e)
theorem SR.notOwn_cell {H : Hp} {i : Addr} {L : Lay} {S : PS} {rv : AV} {p f : Int} {a : Addr} {c : Option AV} (x : SR H i L S rv p f) (h : H a = some (.cell c)) : ¬ own L S a := fun z => z.elim (fun z => ne_of h x.att rfl z) fun z => z.elim (fun z => let ⟨_, h3⟩ := x.dict; ne_of h h3 rfl z)
  fun ⟨k, hk, z⟩ => z.elim (fun z => ne_of h (x.info k hk) rfl z) fun z => ne_of h (x.suc k hk) rfl z
structure Bg (H H' : Hp) (L : Lay) (S : PS) (i : Addr) : Prop where
  sub : SubH H H'
  no : ∀ a ob, H a = some ob → ¬ own L S a
section
variable {H H1 H2 : Hp} {L L' : Lay} {S S' : PS} {i a R : Addr} {o : AObj}
theorem Bg.ex (b : Bg H H1 L S i) (x : Ex H1 H2 L L' S S') : Bg H H2 L' S' i := ⟨fun a ob e => x.fr a ob (b.sub a ob e) (b.no a ob e), fun a ob e => x.notOwn (b.sub a ob e) (b.no a ob e)⟩
theorem Bg.up (b : Bg H H1 L S i) (h : H a = none) : Bg H (upd H1 a o) L S i := ⟨up_sub b.sub h, b.no⟩
theorem Bg.sn (b : Bg H H1 L S i) (e : S'.nodes = S.nodes) : Bg H H1 L S' i := ⟨b.sub, fun a ob h => by unfold own; rw [e]; exact b.no a ob h⟩
end
theorem sub_no {H H1 : Hp} {a : Addr} (s : SubH H H1) (h : H1 a = none) : H a = none := by
  cases e : H a with
  | none => rfl
  | some ob => exact nos (h.symm.trans (s _ _ e))
theorem fm_filter {α β : Type} (b : α → Bool) (f : α → β) : ∀ xs : List α, xs.filterMap (fun j => if b j = true then some (f j) else none) = (xs.filter b).map f
  | [] => rfl
  | a :: r => by
    have ih := fm_filter b f r
    cases e : b a with
    | true => rw [List.filter_cons_of_pos e, List.map_cons, ← ih]; exact List.filterMap_cons_some (if_pos e)
    | false => rw [List.filter_cons_of_neg (fun z => ff (e.symm.trans z)), ← ih]; exact List.filterMap_cons_none (if_neg fun z => ff (e.symm.trans z))
theorem abind_va {fi : FI} {v : Str} {ps : List Str} {vs : List AV} (hv : fi.vararg = some v) (hp : fi.params = ps) (h : ps.length ≤ vs.length ∧ vs.length ≤ 1000) : abind fi vs = some (ps.zip vs ++ [(v, .tup (vs.drop ps.length))]) := by
  unfold abind
  rw [hv]
  subst hp
  exact if_pos h
theorem bind184 {i k : AV} {vs : List AV} (h : vs.length ≤ 900) : abind (fnOf 184) (i :: k :: vs) = some [(("self" : Str), i), ("node", k), ("predecessors", .tup vs)] :=
  abind_va (v := Str.ofString "predecessors") (ps := [Str.ofString "self", Str.ofString "node"]) (by kernel_rfl) (by kernel_rfl) ⟨Nat.le_add_left 2 _, by show vs.length + 2 ≤ 1000; lia⟩
theorem bind217 {i : AV} {vs : List AV} (h : vs.length ≤ 900) : abind (fnOf 217) (i :: vs) = some [(("self" : Str), i), ("nodes", .tup vs)] :=
  abind_va (v := Str.ofString "nodes") (ps := [Str.ofString "self"]) (by kernel_rfl) (by kernel_rfl) ⟨Nat.le_add_left 1 _, by show vs.length + 1 ≤ 1000; lia⟩
theorem seq_nat {k N : Nat} (h : k < N) (hl : N ≤ lim) : seqIdx (k : Int) N = some k := by
  unfold seqIdx
  have : (lim : Nat) = 1000000 := rfl
  rw [if_pos ⟨by lia, by lia⟩, if_pos (by lia), if_pos (by lia)]
  congr 1
end
section
open PySem PySem.W PyProof.Rows
theorem w1_cut {T : Top0} {n : Nat} {sc : Scope} {cells : List (Str × Nat)} {lam : Bool} {st : Stmt} {ss : List Stmt} {σ : St} {K : AFlow → St → Prop} {α : Type} (u : α → List (Option AV)) (M : Hp → α → Prop)
    (h : W1 ⟨T, n, sc, cells, lam⟩ st σ (midK (NxM ⟨T, n, sc, cells, lam⟩ u M) K)) (hr : ∀ H a, M H a → Wx ⟨T, n, sc, cells, lam⟩ ss (V ⟨T, n, sc, cells, lam⟩ H (u a)) K) : W1 ⟨T, n, sc, cells, lam⟩ st σ (seqK ⟨T, n, sc, cells, lam⟩ ss K) :=
  h.mono fun fl s z => by
    cases fl with
    | next => obtain ⟨H, us, a, rfl, rfl, z⟩ := z; exact hr H a z
    | _ => exact z
theorem WEs.mono {fs : FS} {es : List Expr} {σ : St} {Q R : List AV → St → Prop} (h : WEs fs es σ Q) (m : ∀ vs s, Q vs s → R vs s) : WEs fs es σ R := fun Φ P K E pos F ok k => h Φ P K E pos F ok fun P' xs vs σ' l ok' r q => k P' xs vs σ' l ok' r (m _ _ q)
theorem w_listV {fs : FS} {H : Hp} {us : List (Option AV)} {es : List Expr} {p : Pos} {Q : AV → St → Prop} (h : WEs fs es (V fs H us) fun vs s => s = V fs H us ∧ vs.length ≤ lim ∧ Q (.lst vs) (V fs H us)) : We fs (.List es p) (V fs H us) Q :=
  w_frz (w_list (h.mono fun vs s ⟨e, hl, q⟩ => by
    subst e
    refine ⟨hl, fun a ha => ⟨a, vs, rfl, upd_same, ?_⟩⟩
    rw [← dl_upd (H := H) (A := a) (o := .list vs) ha] at q
    exact q))
section
variable {σ : St} {a : AV} {xs : List AV} {b : Nat} {R : AV → Prop}
theorem f_slT (h : LI σ a xs) (hl : xs.length ≤ lim) (q : R (.lst (xs.take b))) : ∃ v, Sl a none (some (b : Int)) σ v ∧ R v := ⟨_, sl_list h hl, by rw [aslice_to]; exact q⟩
theorem f_slD (h : LI σ a xs) (hl : xs.length ≤ lim) (q : R (.lst (xs.drop b))) : ∃ v, Sl a (some (b : Int)) none σ v ∧ R v := ⟨_, sl_list h hl, by rw [aslice_from]; exact q⟩
end
theorem gPut_new {k : Int} {v : AV} : ∀ {es : List (Int × AV)}, k ∉ es.map (·.1) → gPut k v es = es ++ [(k, v)]
  | [], _ => rfl
  | p :: r, h => by
    unfold gPut
    rw [if_neg (show ¬ p.1 = k from fun z => h (z ▸ List.mem_cons_self)), gPut_new fun z => h (List.mem_cons_of_mem _ z)]
    rfl
theorem lookup_map {f : Int → AV} (k : Int) : ∀ (ks : List Int), (ks.map fun k => (k, f k)).lookup k = if k ∈ ks then some (f k) else none
  | [] => rfl
  | a :: r => by
    rw [List.map_cons, List.lookup_cons, lookup_map k r]
    by_cases e : k = a
    · rw [e, beq_self_eq_true, if_pos List.mem_cons_self]
    · rw [beq_eq_false_iff_ne.mpr e]
      exact ite_congr (propext ⟨List.mem_cons_of_mem _, fun z => (List.mem_cons.mp z).resolve_left e⟩) (fun _ => rfl) fun _ => rfl
end
section
open PySem PySem.W PyProof.Rows
noncomputable def itV : Option (List Nat) → AV
  | none => .none
  | some s => .str (tx s)
noncomputable def hst (host : List Nat) (p : Nat) : List Nat := if host.getD p 0 = 46 then [92, 46] else [host.getD p 0]
noncomputable def tkS (host : List Nat) (ps : List Nat) (it : Option (List Nat)) : List Nat := match it with
  | none => match ps with
    | [] => []
    | p :: _ => (List.range (host.length + 1 - p)).map (p + ·)
  | some s => ((ps.filter fun p => decide (p < host.length)).filter fun p => [[63], hst host p].contains s).map (· + 1)
noncomputable def pV (ps : List Nat) : List AV := ps.map fun (p : Nat) => .int p
theorem tkS_le {host : List Nat} {ps : List Nat} (h : ∀ p ∈ ps, p ≤ host.length) (it : Option (List Nat)) : ∀ p ∈ tkS host ps it, p ≤ host.length := by
  cases it with
  | none =>
    cases ps with
    | nil => exact fun p h => (List.not_mem_nil h).elim
    | cons a r =>
      intro p hp
      obtain ⟨j, hj, rfl⟩ := List.mem_map.mp hp
      have := List.mem_range.mp hj
      have := h a List.mem_cons_self
      lia
  | some s =>
    intro p hp
    obtain ⟨j, hj, rfl⟩ := List.mem_map.mp hp
    have := (List.mem_filter.mp (List.mem_filter.mp hj).1).2
    have := of_decide_eq_true this
    lia
theorem tkS_len {host : List Nat} {ps : List Nat} (h : ps.length ≤ host.length + 1) (it : Option (List Nat)) : (tkS host ps it).length ≤ host.length + 1 := by
  cases it with
  | none =>
    cases ps with
    | nil => exact Nat.zero_le _
    | cons a r => show ((List.range _).map _).length ≤ _; rw [List.length_map, List.length_range]; lia
  | some s =>
    show (List.map _ _).length ≤ _
    rw [List.length_map]
    exact Nat.le_trans (List.length_filter_le _ _) (Nat.le_trans (List.length_filter_le _ _) h)
theorem ct_nat (n : Nat) : ∀ ps : List Nat, (ps.map fun (p : Nat) => (p : Int)).contains (n : Int) = ps.contains n
  | [] => rfl
  | a :: r => by
    rw [List.map_cons, List.contains_cons, List.contains_cons, ct_nat n r]
    congr 1
    by_cases e : n = a
    · subst e; rw [beq_self_eq_true, beq_self_eq_true]
    · rw [beq_eq_false_iff_ne.mpr e, beq_eq_false_iff_ne.mpr fun z => e (by lia)]
theorem ct_tx (s : List Nat) : ∀ ls : List (List Nat), (ls.map tx).contains (tx s) = ls.contains s
  | [] => rfl
  | a :: r => by
    rw [List.map_cons, List.contains_cons, List.contains_cons, ct_tx s r]
    congr 1
    by_cases e : s = a
    · subst e; rw [beq_self_eq_true, beq_self_eq_true]
    · rw [beq_eq_false_iff_ne.mpr e, beq_eq_false_iff_ne.mpr fun z => e (tx_inj.mp z)]
theorem pV_nats (p n : Nat) : (natsFrom p n).map AV.int = pV ((List.range n).map (p + ·)) := by
  unfold natsFrom pV
  rw [List.map_map, List.map_map]
  exact List.map_congr_left fun k _ => congrArg AV.int (Int.natCast_add p k).symm
theorem pV_len {ps : List Nat} : (pV ps).length = ps.length := List.length_map ..
theorem s_dot : Str.ofString "." = tx [46] := by decide +kernel
theorem s_bdot : Str.ofString "\\." = tx [92, 46] := by decide +kernel
section
variable {H : Hp} {n : Nat} {Q : AV → Hp → Prop}
noncomputable abbrev csT (base : Nat) : List (Str × Nat) := [("item", base + 1), ("host", base)]
noncomputable abbrev usK (items : List (Option (List Nat))) (ps fi : Option AV) : List (Option AV) := [some (.lst (items.map itV)), ps, fi]
inductive Ta1 (H0 : Hp) (base : Addr) (items : List (Option (List Nat))) (host : List Nat) (idx : Nat) (H : Hp) (us : List (Option AV)) : Prop
  | mk (ps : List Nat) (c : Option AV) (e : us = usK items (some (.lst (pV ps))) none) (d0 : H base = some (.cell (some (.str (tx host))))) (d1 : H (base + 1) = some (.cell c)) (hp : ps = (items.take idx).foldl (tkS host) [0]) (s : SubH H0 H) : Ta1 H0 base items host idx H us
theorem takes_ok (items : List (Option (List Nat))) (host : List Nat) (hh : host.length ≤ 20) (hi : items.length ≤ 50) (q : Q (.bool ((items.foldl (tkS host) [0]).contains host.length)) H) :
    Body TT (n + 1) (fnOf 243) [("items", .lst (items.map itV)), ("host", .str (tx host))] H Q := by
  with_reducible refine body_c (cs := csT) (us := usK items none none) (fun _ => by kernel_rfl) (by decide +kernel) (by kernel_rfl) fun base H1 hs hb hc => ?_
  have c0 : H1 base = some (.cell (some (.str (tx host)))) := hc 0 "host" (by kernel_rfl)
  have c1 : H1 (base + 1) = some (.cell none) := hc 1 "item" (by kernel_rfl)
  have b1 : H (base + 1) = none := hb _ (Nat.le_succ _)
  have n01 : base + 1 ≠ base := Nat.succ_ne_self base
  clear hc hb
  conv => arg 2; whnf
  refine w_cons (x_asg (fun _ => rfl) (fun _ => rfl) (w_listV ?_))
  walk_at "ws"
  refine ⟨rfl, show 1 ≤ lim by walk_at "lm", ?_⟩
  walk_at "ws"
  refine x_for' (by decide +kernel) (i_plain (fun _ _ => rfl) ?_)
  walk_at "ws"
  refine e_sr sr_lst ⟨H1, usK items (some (.lst (pV [0]))) none, rfl, Ta1 H base items host, ⟨[0], none, rfl, c0, c1, rfl, hs⟩, fun _ _ _ _ _ => trivial, ?_, ?_⟩
  · clear c0 c1 hs
    rintro idx v H2 us hv ⟨ps, c, e, d0, d1, hp, s2⟩
    subst e
    rw [List.getElem?_map] at hv
    obtain ⟨it, hit, rfl⟩ := Option.map_eq_some_iff.mp hv
    have hps : ∀ (l : List (Option (List Nat))) (ps : List Nat), (∀ p ∈ ps, p ≤ host.length) ∧ ps.length ≤ host.length + 1 → (∀ p ∈ l.foldl (tkS host) ps, p ≤ host.length) ∧ (l.foldl (tkS host) ps).length ≤ host.length + 1 := fun l => by
      induction l with
      | nil => exact fun ps h => h
      | cons a r ih => exact fun ps h => ih _ ⟨tkS_le h.1 a, tkS_len h.2 a⟩
    obtain ⟨hp1, hp2⟩ : (∀ p ∈ ps, p ≤ host.length) ∧ ps.length ≤ host.length + 1 := hp ▸ hps _ [0] ⟨fun p h => by rw [List.mem_singleton.mp h]; exact Nat.zero_le _, Nat.succ_le_succ (Nat.zero_le _)⟩
    have hnx : tkS host ps it = (items.take (idx + 1)).foldl (tkS host) [0] := by rw [take_succ hit, List.foldl_append, ← hp]; rfl
    have e0 : upd H2 (base + 1) (.cell (some (itV it))) base = some (.cell (some (.str (tx host)))) := up_ne' (Ne.symm n01) d0
    have e1 : upd H2 (base + 1) (.cell (some (itV it))) (base + 1) = some (.cell (some (itV it))) := upd_same
    have s3 : SubH H (upd H2 (base + 1) (.cell (some (itV it)))) := up_sub s2 b1
    walk_at "ws"
    generalize upd H2 (base + 1) (.cell (some (itV it))) = H3 at *
    have hlim : (tx host).length ≤ lim := by rw [tx_len]; walk_at "lm"
    cases it with
    | none =>
      refine f_is (a := .none) (c := true) rfl (br_t rfl ?_)
      refine w_cons (x_asg (fun _ => rfl) (fun _ => rfl) (w_frz (w_ifexp ?_)))
      walk_at "ws"
      refine f_tru (.lst _) (by rw [pV_len]; walk_at "lm") ?_
      cases ps with
      | nil =>
        refine br_f rfl ?_
        refine v_list0 fun a ha => ⟨a, [], rfl, upd_same, ?_⟩
        show Wal _ _ _ (V _ (dl (upd H3 a (.list [])) a) _) _
        rw [dl_upd ha]
        walk_at "ws"
        exact ⟨_, _, rfl, [], _, rfl, e0, e1, hnx, s3⟩
      | cons p r =>
        have hpl := hp1 p List.mem_cons_self
        refine br_t rfl ?_
        walk_at "ws"
        refine f_list (v := .int (p : Nat)) (k := 0) (.lst _) (seq_nat (by rw [pV_len]; exact Nat.succ_pos _) (by rw [pV_len]; walk_at "lm")) rfl ?_
        walk_at "ws"
        refine bu_lenS hlim ?_
        walk_at "ws"
        refine bu_range2 ?_
        rw [tx_len, show ((host.length : Nat) : Int) + 1 = (p : Int) + ((host.length + 1 - p : Nat) : Int) by lia]
        walk_at "ws"
        refine bu_listR (by lia) (by lia) (by lia) fun a ha => ⟨a, _, rfl, upd_same, ?_⟩
        show Wal _ _ _ (V _ (dl (upd H3 a (.list _)) a) _) _
        rw [dl_upd ha, pV_nats]
        walk_at "ws"
        exact ⟨_, _, rfl, _, _, rfl, e0, e1, hnx, s3⟩
    | some s =>
      refine f_is (a := .str (tx s)) (c := false) rfl (br_f rfl ?_)
      walk_at "ws"
      have e1 : H3 (base + 1) = some (.cell (some (.str (tx s)))) := e1
      have hf1 : (ps.filter fun p => decide (p < host.length)).length ≤ 30 := Nat.le_trans (List.length_filter_le _ _) (by lia)
      refine comp2 (z := ".0") (cs := fun _ => [("host", base)]) ps (fun p => .int (p : Nat)) (fun p => if decide (p < host.length) = true then some (.int (p : Nat)) else none) (pV (ps.filter fun p => decide (p < host.length))) (fm_filter _ _ _) rfl (by kernel_rfl) (by decide +kernel) rfl (fun _ => by kernel_rfl) (i_plain (fun _ _ => rfl) ?_)
      walk_at "ws"
      refine e_sr sr_lst ⟨rfl, fun _ => trivial, by walk_at "lm", fun b2 p hpm => ?_, ?_⟩
      · walk_at "ws"
        refine bu_lenS hlim ?_
        walk_at "ws"
        rw [tx_len]
        have hdec : decide ((p : Int) < (host.length : Int)) = decide (p < host.length) := decide_eq_decide.mpr (by lia)
        refine ⟨fun e => ?_, fun e => ?_⟩
        · walk_at "ws"
          refine ⟨rfl, br_t rfl ?_⟩
          walk_at "ws"
          exact ⟨rfl, if_pos (hdec ▸ e)⟩
        · exact ⟨rfl, br_f rfl (if_neg fun z => ff ((hdec.symm ▸ e : decide (p < host.length) = false).symm.trans z))⟩
      walk_at "ws"
      generalize hg : (ps.filter fun p => decide (p < host.length)) = gs at *
      have hgs : ∀ p ∈ gs, p < host.length := fun p hpm => by rw [← hg] at hpm; exact of_decide_eq_true (List.mem_filter.mp hpm).2
      refine comp2 (z := ".0") (cs := fun _ => [("item", base + 1), ("host", base)]) gs (fun p => .int (p : Nat)) (fun p => if [[63], hst host p].contains s = true then some (.int ((p + 1 : Nat))) else none) (pV ((gs.filter fun p => [[63], hst host p].contains s).map (· + 1))) (by rw [fm_filter]; unfold pV; rw [List.map_map]; rfl) rfl (by kernel_rfl) (by decide +kernel) rfl (fun _ => by kernel_rfl) (i_plain (fun _ _ => rfl) ?_)
      walk_at "ws"
      refine e_sr sr_lst ⟨rfl, fun _ => trivial, by walk_at "lm", fun b2 p hpm => ?_, ?_⟩
      · have hpl := hgs p hpm
        have hget : host[p]? = some (host.getD p 0) := by rw [List.getD_eq_getElem?_getD, List.getElem?_eq_getElem hpl]; rfl
        have hll : host.length ≤ lim := by walk_at "lm"
        refine c_if1 (t_cmp rfl (w_ce (by with_unfolding_all decide +kernel) (by with_unfolding_all rfl) e1 (w_listV ?_)))
        walk_at "ws"
        refine w_ifexp ?_
        walk_at "ws"
        refine f_strI hget hll ?_
        walk_at "ws"
        have fin : ∀ {Y : Str}, Y = tx (hst host p) → ([Str.ofString "?", Y].contains (tx s)) = [[63], hst host p].contains s := fun e => by rw [e, s_ques]; exact ct_tx s [[63], hst host p]
        by_cases hd : host.getD p 0 = 46
        · refine br_t (by rw [hd, s_dot]; exact decide_eq_true rfl) ?_
          walk_at "ws"
          refine ⟨rfl, show 2 ≤ lim by walk_at "lm", _, n_liS (ss := [Str.ofString "?", Str.ofString "\\."]) (.lst _), ?_⟩
          rw [fin (by unfold hst; rw [if_pos hd]; exact s_bdot)]
          refine ⟨fun e => ?_, fun e => ?_⟩
          · walk_at "ws"
            refine ⟨rfl, br_t rfl ?_⟩
            walk_at "ws"
            exact ⟨rfl, if_pos e⟩
          · exact ⟨rfl, br_f rfl (if_neg fun z => ff (e.symm.trans z))⟩
        · refine br_f (decide_eq_false fun z => hd (List.cons.inj (tx_inj.mp (z.trans s_dot))).1) ?_
          walk_at "ws"
          refine f_strI hget hll ?_
          walk_at "ws"
          refine ⟨rfl, show 2 ≤ lim by walk_at "lm", _, n_liS (ss := [Str.ofString "?", tx [host.getD p 0]]) (.lst _), ?_⟩
          rw [fin (by unfold hst; rw [if_neg hd])]
          refine ⟨fun e => ?_, fun e => ?_⟩
          · walk_at "ws"
            refine ⟨rfl, br_t rfl ?_⟩
            walk_at "ws"
            exact ⟨rfl, if_pos e⟩
          · exact ⟨rfl, br_f rfl (if_neg fun z => ff (e.symm.trans z))⟩
      walk_at "ws"
      refine ⟨_, _, rfl, _, _, rfl, e0, e1, ?_, s3⟩
      rw [← hnx, ← hg]
      rfl
  · clear c0 c1 hs
    rintro H2 us ⟨ps, c, e, d0, d1, hp, s2⟩
    subst e
    have hlim : (tx host).length ≤ lim := by rw [tx_len]; walk_at "lm"
    rw [List.length_map, List.take_length] at hp
    walk_at "ws"
    refine bu_lenS hlim ?_
    walk_at "ws"
    rw [tx_len]
    refine ⟨_, n_liI (is := ps.map fun (p : Nat) => (p : Int)) (by rw [List.map_map]; exact .lst _), ?_⟩
    rw [ct_nat, hp]
    walk_at "ws"
    exact ⟨H, s2, q⟩
end
end
section
open PySem PySem.W PyProof.Rows
theorem bu_iss {fs : FS} {σ : St} {s : Str} {Q : AV → St → Prop} : Q (.bool true) σ → Ac fs (.con (.builtin "isinstance")) [.str s, .con (.type "str")] σ Q := ac2 fun Φ P x y F ok r r' Q E k => r'.eC (r.eS fun t => IsiPair.str_str (k P.s.heap P.s.toks _ (fun _ _ e => e) (.bool _)))
noncomputable def esc1 (c : Nat) : List Nat := if special c then [92, c] else [c]
noncomputable def trS (res : List (Option (List Nat))) (c : Nat) : List (Option (List Nat)) :=
  if c = 42 then (if res.getLast? = some none then res else res ++ [none]) else if c = 63 then res ++ [some [63]] else res ++ [some (esc1 c)]
section
variable {H : Hp} {n : Nat} {Q : AV → Hp → Prop}
theorem escape_ok {c : Nat} (hc : c < 128) (q : Q (.str (tx (esc1 c))) H) : Body TT (n + 1) (fnOf 111) [("pattern", .str (tx [c]))] H Q := by
  with_reducible refine body_0 (us := [some (.str (tx [c]))]) (by decide +kernel) (by decide +kernel) (by kernel_rfl) ?_
  conv => arg 2; whnf
  walk_at "ws"
  refine bu_iss ?_
  refine ⟨true, tr_bool, br_t rfl ?_⟩
  walk_at "ws"
  refine e_mg mg_translate ?_
  walk_at "ws"
  refine m_translate (c := c) hc ?_
  rw [show (if special c then (⟨#[92, c]⟩ : Str) else ⟨#[c]⟩) = tx (esc1 c) by unfold esc1; cases special c <;> rfl]
  walk_at "ws"
  exact ⟨H, fun _ _ z => z, q⟩
noncomputable abbrev usX (l : List Nat) (A : Addr) (k : Nat) : List (Option AV) := [some (.str (tx l)), some .none, some (.str (tx [63])), some (rf A), some (.bm "list.append" A), some (.int (k : Nat)), some (.int (l.length : Nat)), none, none, none, none, none, none]
inductive X1 (H0 : Hp) (A : Addr) (l : List Nat) (m : Nat) (H : Hp) (k : Nat) : Prop
  | mk (c : H A = some (.list (((l.take k).foldl trS []).map itV))) (s : SubH H0 H) (hm : m + k = l.length) : X1 H0 A l m H k
theorem transG_ok (l : List Nat) (h : ∀ c ∈ l, c < 128 ∧ c ≠ 91) (hl : l.length ≤ 50) (q : Q (.lst ((l.foldl trS []).map itV)) H) :
    Body TT (n + 2) (fnOf 118) [("pat", .str (tx l)), ("STAR", .none), ("QUESTION_MARK", .str (tx [63]))] H Q := by
  have hlim : l.length ≤ lim := by walk_at "lm"
  with_reducible refine body_0 (us := [some (.str (tx l)), some .none, some (.str (tx [63])), none, none, none, none, none, none, none, none, none, none]) (by decide +kernel) (by decide +kernel) (by kernel_rfl) ?_
  conv => arg 2; whnf
  walk_at "ws"
  intro A zA
  have zA : H A = none := zA
  walk_at "ws"
  refine x_swap (by kernel_rfl) ?_
  walk_at "ws"
  refine bu_lenS (by rw [tx_len]; exact hlim) ?_
  walk_at "ws"
  refine ⟨show 2 ≤ lim by walk_at "lm", _, _, rfl, ?_⟩
  walk_at "ws"
  rw [tx_len]
  refine x_whileC (usX l A) l.length 0 (by decide +kernel) (X1 H A l) ⟨upd_same, fun a o e => up_ne' (ne_new e zA) e, by lia⟩ ?_
  rintro m H1 k ⟨cA, s1, hm⟩
  walk_at "ws"
  refine ⟨fun e => ?_, fun e => ?_⟩
  · have e := of_decide_eq_true e
    have hk : k < l.length := by lia
    obtain ⟨c, hc⟩ : ∃ c, l[k]? = some c := ⟨_, List.getElem?_eq_getElem hk⟩
    obtain ⟨hc1, hc2⟩ := h c (List.mem_of_getElem? hc)
    walk_at "ws"
    refine f_strI hc hlim ?_
    walk_at "ws"
    have htk : (l.take (k + 1)).foldl trS [] = trS ((l.take k).foldl trS []) c := by rw [take_succ hc, List.foldl_append]; rfl
    have hal : ∀ (l : List Nat) (a : List (Option (List Nat))), (l.foldl trS a).length ≤ a.length + l.length := fun l => by
      induction l with
      | nil => exact fun a => Nat.le_refl _
      | cons x r ih =>
        intro a
        have h1 := ih (trS a x)
        have h2 : (trS a x).length ≤ a.length + 1 := by
          unfold trS
          split
          · split
            · lia
            · rw [List.length_append]; exact Nat.le_refl _
          · split <;> (rw [List.length_append]; exact Nat.le_refl _)
        rw [List.foldl_cons, List.length_cons]; lia
    have hal := hal (l.take k) []
    rw [List.length_take] at hal
    have hal : ((l.take k).foldl trS []).length ≤ 50 := by simp at hal; lia
    have sA : ∀ {o : AObj}, SubH H (upd H1 A o) := fun a o e => up_ne' (ne_new e zA) (s1 a o e)
    generalize (l.take k).foldl trS [] = acc at *
    have push : ∀ {x : Option (List Nat)} {v : AV}, v = itV x → trS acc c = acc ++ [x] → upd H1 A (.list (acc.map itV ++ [v])) A = some (.list (((l.take (k + 1)).foldl trS []).map itV)) := fun {x v} e h => by
      rw [htk, h, List.map_append, e]; exact upd_same
    by_cases h42 : c = 42
    · subst h42
      refine br_t (by rw [s_star]; exact decide_eq_true rfl) ?_
      walk_at "ws"
      refine f_tru (.ref cA) (by rw [List.length_map]; walk_at "lm") ?_
      rcases List.eq_nil_or_concat acc with rfl | ⟨r, x, rfl⟩
      · walk_at "ws"
        refine v_bapp cA (Nat.zero_lt_succ _) ?_
        walk_at "ws"
        exact ⟨m - 1, _, _, k + 1, by lia, rfl, rfl, push (x := none) rfl rfl, sA, by lia⟩
      · have hne : ((r.concat x).map itV).isEmpty = false := by rw [List.concat_eq_append, List.map_append]; cases r <;> rfl
        rw [hne]
        walk_at "ws"
        have hlen : ((r.concat x).map itV).length = r.length + 1 := by rw [List.length_map, List.length_concat]
        refine f_list (v := itV x) (.ref cA) (by rw [hlen]; exact seq_neg (Nat.succ_pos _) (by rw [List.length_concat] at hal; walk_at "lm")) (by rw [List.concat_eq_append, List.map_append, List.getElem?_append_right (by rw [List.length_map]; lia), List.length_map]; simp) ?_
        walk_at "ws"
        cases x with
        | none =>
          refine f_isnt (a := .none) (c := true) rfl (br_f rfl ?_)
          walk_at "ws"
          exact ⟨m - 1, _, _, k + 1, by lia, rfl, rfl, by rw [htk, show trS (r.concat none) 42 = r.concat none from by unfold trS; rw [if_pos rfl, if_pos (by rw [List.concat_eq_append]; exact List.getLast?_concat)]]; exact cA, s1, by lia⟩
        | some s =>
          refine f_isnt (a := .str (tx s)) (c := false) rfl (br_t rfl ?_)
          walk_at "ws"
          refine v_bapp cA (by rw [hlen]; rw [List.length_concat] at hal; walk_at "lm") ?_
          walk_at "ws"
          exact ⟨m - 1, _, _, k + 1, by lia, rfl, rfl, push (x := none) rfl (by unfold trS; rw [if_pos rfl, if_neg (by rw [List.concat_eq_append, List.getLast?_concat]; exact fun z => nomatch z)]), sA, by lia⟩
    · refine brS_f s_star (hd_ne h42) ?_
      walk_at "ws"
      by_cases h63 : c = 63
      · subst h63
        refine br_t (by rw [s_ques]; exact decide_eq_true rfl) ?_
        walk_at "ws"
        refine v_bapp cA (by rw [List.length_map]; walk_at "lm") ?_
        walk_at "ws"
        exact ⟨m - 1, _, _, k + 1, by lia, rfl, rfl, push (x := some [63]) rfl (by unfold trS; rw [if_neg (by decide), if_pos rfl]), sA, by lia⟩
      · refine brS_f s_ques (hd_ne h63) ?_
        walk_at "ws"
        refine brS_f s_open (hd_ne hc2) ?_
        walk_at "ws"
        refine ac_V (binds := [("pattern", .str (tx [c]))]) lib111 (by kernel_rfl) (escape_ok hc1 ?_)
        walk_at "ws"
        refine v_bapp cA (by rw [List.length_map]; walk_at "lm") ?_
        walk_at "ws"
        exact ⟨m - 1, _, _, k + 1, by lia, rfl, rfl, push (x := some (esc1 c)) rfl (by unfold trS; rw [if_neg h42, if_neg h63]), sA, by lia⟩
  · have e := of_decide_eq_false e
    have hk : k = l.length := by lia
    subst hk
    rw [List.take_length] at cA
    refine w_nil ?_
    walk_at "ws"
    refine ⟨decide_eq_true rfl, ?_⟩
    refine k_next (w_cons (x_ret (w_frzL 3 (by decide +kernel) rfl cA ?_)))
    walk_at "ws"
    exact ⟨H, dl_sub s1 zA, q⟩
end
end
section
open PySem PySem.W PyProof.Rows
noncomputable def vlT (v : List Nat) : List Nat := if (v.all isTokCh && !v.isEmpty) = true then v else 34 :: (v ++ [34])
noncomputable def elV (p : List Nat × List Nat) : List Nat := p.1 ++ 61 :: vlT p.2
noncomputable def kvV (p : List Nat × List Nat) : AV := .tup [.str (tx p.1), .str (tx p.2)]
theorem vlT_len (v : List Nat) : (vlT v).length ≤ v.length + 2 := by
  unfold vlT
  split
  · lia
  · show (v ++ [34]).length + 1 ≤ _
    rw [List.length_append]; exact Nat.le_refl _
theorem elV_len {p : List Nat × List Nat} (h : p.1.length ≤ 20 ∧ p.2.length ≤ 20) : (elV p).length ≤ 43 := by
  have := vlT_len p.2
  unfold elV
  rw [List.length_append, List.length_cons]
  lia
theorem f_pcQ {σ : St} {l : List Nat} {R : AV → Prop} (h : l.length ≤ 1000) (q : R (.str (tx (34 :: (l ++ [34]))))) : ∃ v, Bop .Mod (.str "\"%s\"") (.str (tx l)) σ v ∧ R v :=
  ⟨_, o_pcQ (by rw [tx_len]; lia), by rw [show ("\"" : Str) = tx [34] by decide +kernel, tx_app, tx_app]; exact q⟩
theorem e_kv {l m : List Nat} {x : Str} (hx : x = Str.ofString "=") : ((Str.empty ++ tx l) ++ x) ++ tx m = tx (l ++ 61 :: m) := by rw [hx, show (Str.ofString "=") = tx [61] by decide +kernel, show Str.empty = tx [] from rfl, tx_app, tx_app, tx_app, List.nil_append, List.append_assoc]; rfl
inductive JV1 (H0 : Hp) (A : Addr) (rs : List (List Nat × List Nat)) (idx : Nat) (H : Hp) : Prop
  | mk (c : H A = some (.list ((rs.take idx).map fun r => .str (tx (elV r))))) (s : SubH H0 H) : JV1 H0 A rs idx H
inductive JV2 (H0 : Hp) (A B : Addr) (rs : List (List Nat × List Nat)) (idx : Nat) (r : List Nat × List Nat) (j : Nat) (H : Hp) : Prop
  | mk (c : H A = some (.list ((rs.take idx).map fun r => .str (tx (elV r))))) (d0 : j = 0 → H B = some (.list [])) (d1 : j = 1 → H B = some (.list [.str (tx (elV r))])) (s : SubH H0 H) : JV2 H0 A B rs idx r j H
theorem joinV_ok {H : Hp} {n : Nat} {Q : AV → Hp → Prop} (rs : List (List Nat × List Nat)) (h1 : rs.length ≤ 20) (h3 : ∀ r ∈ rs, r.1.length ≤ 20 ∧ r.2.length ≤ 20 ∧ r.2.all (fun c => c != 92 && c != 34) = true) (q : Q (.str (tx (glueL [44, 32] (rs.map elV)))) H) :
    Body TT (n + 1) (fnOf 94) [("lists", .lst (rs.map fun r => .lst [kvV r]))] H Q := by
  with_reducible refine body_0 (us := [some (.lst (rs.map fun r => .lst [kvV r])), none, none, none, none, none]) (by decide +kernel) (by decide +kernel) (by kernel_rfl) ?_
  conv => arg 2; whnf
  walk_at "ws"
  intro A zA
  have zA : H A = none := zA
  walk_at "ws"
  refine x_forC (by decide +kernel) (i_plain (fun _ _ => rfl) ?_)
  walk_at "ws"
  refine e_sr sr_lst ⟨_, [some (.lst (rs.map fun r => .lst [kvV r])), some (rf A), none, none, none, none], rfl, JV1 H A rs, ⟨upd_same, fun a o e => up_ne' (ne_new e zA) e⟩, fun _ _ _ _ => trivial, ?_, ?_⟩
  · rintro idx v H1 hv0 ⟨c0, s0⟩
    rw [List.getElem?_map] at hv0
    obtain ⟨r, hr, rfl⟩ := Option.map_eq_some_iff.mp hv0
    have hrm := List.mem_of_getElem? hr
    obtain ⟨hk, hv, hq⟩ := h3 r hrm
    walk_at "ws"
    intro B zB
    have zB : H1 B = none := zB
    have nAB : A ≠ B := ne_new c0 zB
    have zB' : H B = none := by
      cases e : H B with
      | none => rfl
      | some ob => exact nos (zB.symm.trans (s0 _ _ e))
    walk_at "ws"
    refine x_forC (by decide +kernel) (i_plain (fun _ _ => rfl) ?_)
    walk_at "ws"
    refine e_sr sr_lst ⟨_, [some (.lst (rs.map fun r => .lst [kvV r])), some (rf A), some (.lst [kvV r]), some (rf B), none, none], rfl, JV2 H A B rs idx r, ⟨up_ne' nAB c0, fun _ => upd_same, nofun, fun a o e => up_ne' (ne_new e zB') (s0 a o e)⟩, fun _ _ _ _ => trivial, ?_, ?_⟩
    · rintro j v H2 hv0 ⟨d0, d1, -, s1⟩
      have hj : j = 0 := Nat.lt_one_iff.mp (List.getElem?_eq_some_iff.mp hv0).1
      subst hj
      obtain rfl : kvV r = v := smj hv0
      have d1 := d1 rfl
      show Wa _ _ (.tup [.str (tx r.1), .str (tx r.2)]) _ _
      walk_at "ws"
      have hv1 : r.2.length ≤ lim := by walk_at "lm"
      have hk1 : r.1.length ≤ 1000 := by lia
      have fin : ∀ {v2 : List Nat}, v2 = vlT r.2 → tx (r.1 ++ 61 :: v2) = tx (elV r) := fun e => by rw [e]; rfl
      have hb : ∀ {v2 : List Nat}, v2 = vlT r.2 → (r.1 ++ 61 :: v2).length ≤ lim := fun e => by
        rw [e]
        have := elV_len (p := r) ⟨hk, hv⟩
        show (elV r).length ≤ lim
        walk_at "lm"
      have e2 : vlT r.2 = if (r.2.all isTokCh && !r.2.isEmpty) = true then r.2 else 34 :: (r.2 ++ [34]) := rfl
      refine m_full (by rw [tx_len]; exact hv1) ?_
      rw [show ((tx r.2).cps.toList.all isTokCh && !((tx r.2).length == 0)) = (r.2.all isTokCh && !r.2.isEmpty) by rw [tx_len, tx_cps]; cases r.2 <;> rfl]
      by_cases hc : (r.2.all isTokCh && !r.2.isEmpty) = true
      · rw [if_pos hc] at e2 ⊢
        refine e_tru tr_mat (br_f rfl ?_)
        walk_at "ws"
        refine w_fstr (j_val (by decide) ?_)
        walk_at "ws"
        refine ⟨by rw [show Str.empty = tx [] from rfl, tx_app, tx_len]; show r.1.length ≤ lim; walk_at "lm", j_str (by rw [show Str.empty = tx [] from rfl, show (Str.ofString "=") = tx [61] by decide +kernel, tx_app, tx_app, tx_len, List.length_append]; show r.1.length + 1 ≤ lim; walk_at "lm") (j_val (by decide) ?_)⟩
        walk_at "ws"
        refine ⟨by rw [e_kv rfl, tx_len]; exact hb (e2.symm), j_nil' (e_kv rfl) ⟨by rw [tx_len]; exact hb (e2.symm), ?_⟩⟩
        rw [fin e2.symm]
        walk_at "ws"
        refine v_append d1 (Nat.zero_lt_succ _) ?_
        walk_at "ws"
        exact ⟨_, _, rfl, rfl, up_ne' nAB d0, nofun, fun _ => upd_same, fun a o e => up_ne' (ne_new e zB') (s1 a o e)⟩
      · rw [if_neg hc] at e2 ⊢
        refine e_tru tr_none (br_t rfl ?_)
        walk_at "ws"
        refine e_mg (mg_sub p87_at) ?_
        walk_at "ws"
        refine w_lam rfl (by decide +kernel) ?_
        walk_at "ws"
        refine m_sub p87_at (by rw [tx_len]; exact hv1) (quoted_0 (by rw [tx_cps]; exact hq)) ?_
        walk_at "ws"
        refine f_pcQ (by lia) ?_
        walk_at "ws"
        refine w_fstr (j_val (by decide) ?_)
        walk_at "ws"
        refine ⟨by rw [show Str.empty = tx [] from rfl, tx_app, tx_len]; show r.1.length ≤ lim; walk_at "lm", j_str (by rw [show Str.empty = tx [] from rfl, show (Str.ofString "=") = tx [61] by decide +kernel, tx_app, tx_app, tx_len, List.length_append]; show r.1.length + 1 ≤ lim; walk_at "lm") (j_val (by decide) ?_)⟩
        walk_at "ws"
        refine ⟨by rw [e_kv rfl, tx_len]; exact hb (e2.symm), j_nil' (e_kv rfl) ⟨by rw [tx_len]; exact hb (e2.symm), ?_⟩⟩
        rw [fin e2.symm]
        walk_at "ws"
        refine v_append d1 (Nat.zero_lt_succ _) ?_
        walk_at "ws"
        exact ⟨_, _, rfl, rfl, up_ne' nAB d0, nofun, fun _ => upd_same, fun a o e => up_ne' (ne_new e zB') (s1 a o e)⟩
    · rintro H2 ⟨d0, -, d1, s1⟩
      have d1 := d1 rfl
      walk_at "ws"
      refine f_tru (.ref d1) (show 1 ≤ lim by walk_at "lm") ?_
      refine br_t rfl ?_
      walk_at "ws"
      have hs1 := sum_len 43 [elV r] fun p hp => List.mem_singleton.mp hp ▸ elV_len ⟨hk, hv⟩
      refine m_join (ss := [elV r].map tx) (.ref d1) (by have : [elV r].length = 1 := rfl; rw [List.length_map]; walk_at "lm") (by decide +kernel) ?_
      rw [s_semi, join_tx]
      walk_at "ws"
      refine v_append d0 (by rw [List.length_map, List.length_take]; walk_at "lm") ?_
      walk_at "ws"
      refine ⟨_, _, rfl, rfl, ?_, fun a o e => up_ne' (ne_new e zA) (s1 a o e)⟩
      rw [take_succ hr, List.map_append]
      exact upd_same
  · rintro H1 ⟨c0, s0⟩
    rw [List.length_map, List.take_length] at c0
    walk_at "ws"
    have hf : ∀ p ∈ rs.map elV, p.length ≤ 43 := fun p hp => by
      obtain ⟨r, hr, rfl⟩ := List.mem_map.mp hp
      have := h3 r hr
      exact elV_len ⟨this.1, this.2.1⟩
    have hsum := sum_len 43 _ hf
    rw [List.length_map] at hsum
    refine m_join (ss := (rs.map elV).map tx) (.ref (by rw [List.map_map, List.map_map]; exact c0)) ?_ (by decide +kernel) ?_
    · rw [List.length_map, List.length_map]
      walk_at "lm"
    rw [s_comma, join_tx]
    walk_at "ws"
    exact ⟨H, s0, q⟩
end
section
open PySem PySem.W PyProof.Rows
noncomputable abbrev KV := List Nat × List Nat
structure GKV (r : KV) : Prop where
  kn : r.1 ≠ []
  ks : ∀ c ∈ r.1, isSep c = false
  kl : r.1.length ≤ 20
  vn : r.2 ≠ []
  ve : ∀ c ∈ r.2, isValEnd c = false ∧ c ≠ 34 ∧ c ≠ 92
  vl : r.2.length ≤ 20
noncomputable def enc2 : List KV → List Nat
  | [] => []
  | r :: t => 44 :: 32 :: (elV r ++ enc2 t)
theorem enc2_flat : ∀ t : List KV, ((t.map elV).map fun p => [44, 32] ++ p).flatten = enc2 t
  | [] => rfl
  | r :: t => by
    rw [List.map_cons, List.map_cons, List.flatten_cons, enc2_flat t]
    rfl
theorem glue_enc2 (r : KV) (t : List KV) : glueL [44, 32] ((r :: t).map elV) = elV r ++ enc2 t := by
  rw [List.map_cons, glueL_cons, enc2_flat]
theorem enc2_tw {p : Nat → Bool} (h : p 44 = false) (t : List KV) : (enc2 t).takeWhile p = [] := by
  cases t with
  | nil => rfl
  | cons r t => unfold enc2; rw [List.takeWhile_cons_of_neg (by rw [h]; decide)]
noncomputable def KInv (fin : List KV) (text : List Nat) (cur res : List KV) : Prop :=
  (∃ (sp : Bool) (r : KV) (t : List KV), text = (if sp then [32] else []) ++ (elV r ++ enc2 t) ∧ cur = [] ∧ res ++ r :: t = fin) ∨ ∃ r t, text = enc2 t ∧ cur = [r] ∧ res ++ r :: t = fin
theorem ve_sp {c : Nat} (h : isValEnd c = false) : Unicode.isSpace c = false := by
  unfold isValEnd at h
  exact (Bool.or_eq_false_iff.mp h).2
theorem rstrip_tx {l : List Nat} (h : ∀ c ∈ l, Unicode.isSpace c = false) : Txt.rstrip (tx l) = tx l := by
  unfold Txt.rstrip Txt.stripBy
  rw [if_pos]
  unfold stripSame stripLo stripHi
  have e : (l.reverse.takeWhile Unicode.isSpace) = [] := by
    cases hr : l.reverse with
    | nil => rfl
    | cons c r => rw [List.takeWhile_cons_of_neg (by rw [h c (List.mem_reverse.mp (hr ▸ List.mem_cons_self))]; decide)]
  rw [if_neg (by decide), tx_cps, List.drop_zero, e]
  simp
section
variable {r : KV} {t : List KV} {sp : Bool} {text : List Nat}
theorem kv_tok (g : GKV r) (e : text = (if sp then [32] else []) ++ (elV r ++ enc2 t)) :
    ∃ a b, a = (text.takeWhile Unicode.isSpace).length ∧ b = ((text.drop a).takeWhile fun c => !isSep c).length ∧ 0 < b ∧ text.drop (a + b) = 61 :: (vlT r.2 ++ enc2 t) ∧ (text.drop a).take (a + b - a) = r.1 ∧ a + b ≤ text.length := by
  have hp : 0 < r.1.length := List.length_pos_iff.mpr g.kn
  have hT : elV r ++ enc2 t = r.1 ++ 61 :: (vlT r.2 ++ enc2 t) := by unfold elV; rw [List.append_assoc]; rfl
  have h0 : (r.1 ++ 61 :: (vlT r.2 ++ enc2 t)).takeWhile Unicode.isSpace = [] := by
    cases hr : r.1 with
    | nil => exact absurd hr g.kn
    | cons c k => rw [List.cons_append, List.takeWhile_cons_of_neg (by rw [sep_space (g.ks c (hr ▸ List.mem_cons_self))]; decide)]
  have h1 : (r.1 ++ 61 :: (vlT r.2 ++ enc2 t)).takeWhile (fun c => !isSep c) = r.1 := by
    rw [tw_app r.1 _ (fun c hc => by rw [g.ks c hc]; rfl), List.takeWhile_cons_of_neg (by decide +kernel), List.append_nil]
  rw [hT] at e
  cases sp
  · rw [if_neg (by decide), List.nil_append] at e
    subst e
    exact ⟨0, r.1.length, by rw [h0]; rfl, by rw [List.drop_zero, h1], hp, by rw [Nat.zero_add, List.drop_left], by rw [Nat.zero_add, List.drop_zero, Nat.sub_zero, List.take_left], by rw [List.length_append]; lia⟩
  · rw [if_pos rfl] at e
    subst e
    refine ⟨1, r.1.length, by show _ = ((32 :: (r.1 ++ _)).takeWhile Unicode.isSpace).length; rw [List.takeWhile_cons_of_pos sp32, h0]; rfl, by show _ = ((r.1 ++ _).takeWhile _).length; rw [h1], hp, ?_, ?_, by rw [List.length_append, List.length_append]; show 1 + r.1.length ≤ 1 + _; lia⟩
    · rw [Nat.add_comm]; show (r.1 ++ _).drop r.1.length = _; rw [List.drop_left]
    · rw [Nat.add_sub_cancel_left]; show (r.1 ++ _).take r.1.length = _; rw [List.take_left]
end
section
variable {fs : FS} {σ : St} {l v r2 : List Nat} {Q : AV → St → Prop}
theorem re_quo1 (hl : l.length ≤ lim) (e : l = 61 :: 34 :: (v ++ 34 :: r2)) (hv : ∀ c ∈ v, c ≠ 34 ∧ c ≠ 92) (q : Q (.mat (tx l) [(0, 2 + v.length + 1), (2, 2 + v.length)]) σ) : Ac fs (.con (.builtin "re.Pattern.search")) [.con (.ref 60), .str (tx l)] σ Q := by
  have hw : (v ++ 34 :: r2).takeWhile (fun c => c != 34 && c != 92) = v := by
    rw [tw_app v _ (fun c hc => by have := hv c hc; simp [this.1, this.2]), List.takeWhile_cons_of_neg (by decide), List.append_nil]
  have := quo_1 (text := (tx l).cps) (r := v ++ 34 :: r2) (r2 := r2) (by rw [show (tx l).cps.size = l.length from tx_len l]; exact hl) (by rw [tx_cps]; exact e) (by rw [hw, List.drop_left])
  rw [hw] at this
  exact m_found p60_at (by rw [tx_len]; exact hl) this q
theorem re_quo2 (hl : l.length ≤ lim) (e : l = 61 :: v) (hb : noBlank v = true) (hn : ∀ r', v ≠ 34 :: r') (q : Q .none σ) : Ac fs (.con (.builtin "re.Pattern.search")) [.con (.ref 60), .str (tx l)] σ Q :=
  m_fail p60_at (by rw [tx_len]; exact hl) (quo_2 (by rw [show (tx l).cps.size = l.length from tx_len l]; exact hl) (by rw [tx_cps]; exact e) hb hn) q
theorem re_val1 (hl : l.length ≤ lim) (e : l = 61 :: (v ++ r2)) (hv : ∀ c ∈ v, isValEnd c = false) (hn : v ≠ []) (h2 : r2.takeWhile (fun c => !isValEnd c) = []) (q : Q (.mat (tx l) [(0, 1 + v.length), (1, 1 + v.length)]) σ) : Ac fs (.con (.builtin "re.Pattern.search")) [.con (.ref 65), .str (tx l)] σ Q := by
  have hw : (v ++ r2).takeWhile (fun c => !isValEnd c) = v := by rw [tw_app v _ (fun c hc => by rw [hv c hc]; rfl), h2, List.append_nil]
  have hb : noBlank (v ++ r2) = true := by
    cases v with
    | nil => exact absurd rfl hn
    | cons c k => exact (congrArg (!·) (ve_sp (hv c List.mem_cons_self)) : _)
  have := val_1 (text := (tx l).cps) (r := v ++ r2) (by rw [show (tx l).cps.size = l.length from tx_len l]; exact hl) (by rw [tx_cps]; exact e) hb
  rw [hw] at this
  exact m_found p65_at (by rw [tx_len]; exact hl) this q
end
noncomputable def rowV (r : KV) : AV := .lst [kvV r]
inductive SV1 (H0 : Hp) (A : Addr) (fin : List KV) (idx : Nat) (H : Hp) : Prop
  | mk (s : SubH H0 H) (c : idx = 0 → H A = some (.list [])) (d : idx = 1 → H A = some (.list (fin.map rowV))) : SV1 H0 A fin idx H
inductive SV2 (H0 : Hp) (A : Addr) (fin : List KV) (m : Nat) (H : Hp) (x : List Nat × Addr) : Prop
  | mk (cur res : List KV) (hm : m = x.1.length) (hl : x.1.length < 400) (hi : KInv fin x.1 cur res) (c : H A = some (.list (res.map rowV))) (d : H x.2 = some (.list (cur.map kvV))) (n : A ≠ x.2) (z : H0 x.2 = none) (s : SubH H0 H) : SV2 H0 A fin m H x
theorem splitV_ok {H : Hp} {n : Nat} {Q : AV → Hp → Prop} {fin : List KV} {text : List Nat} (hg : ∀ r ∈ fin, GKV r) (hi : KInv fin text [] []) (hl : text.length < 400) (h1 : fin.length ≤ 20) (q : Q (.lst (fin.map rowV)) H) :
    Body TT (n + 2) (fnOf 77) [("header_values", .lst [.str (tx text)])] H Q := by
  with_reducible refine body_0 (us := [some (.lst [.str (tx text)]), none, none, none, none, none, none, none, none, none]) (by decide +kernel) (by decide +kernel) (by kernel_rfl) ?_
  conv => arg 2; whnf
  walk_at "ws"
  refine bu_isl (.lst _) ?_
  refine ⟨false, tr_bool, rfl, ?_⟩
  walk_at "ws"
  intro A zA
  have zA : H A = none := zA
  walk_at "ws"
  refine x_forC (by decide +kernel) (i_plain (fun _ _ => rfl) ?_)
  walk_at "ws"
  refine e_sr sr_lst ⟨_, usS (some (.lst [.str (tx text)])) (some (rf A)) none none none none none none none none, rfl, SV1 H A fin, ⟨fun a o e => up_ne' (ne_new e zA) e, fun _ => upd_same, nofun⟩, fun _ _ _ _ => trivial, ?_, ?_⟩
  · rintro idx v H1 hv ⟨s0, c0, _⟩
    have hidx : idx = 0 := by
      have := (List.getElem?_eq_some_iff.mp hv).1
      exact Nat.lt_one_iff.mp this
    subst hidx
    obtain rfl : AV.str (tx text) = v := smj hv
    have c0 := c0 rfl
    walk_at "ws"
    intro P zP
    have zP : H1 P = none := zP
    have zP' : H P = none := by
      cases e : H P with
      | none => rfl
      | some ob => exact nos (zP.symm.trans (s0 _ _ e))
    have nAP : A ≠ P := ne_new c0 zP
    walk_at "ws"
    refine x_whileC (fun x : List Nat × Addr => usS (some (.lst [.str (tx text)])) (some (rf A)) (some (.str (tx x.1))) (some (.str (tx text))) (some (rf x.2)) none none none none none) text.length (text, P) (by decide +kernel) (SV2 H A fin) ⟨[], [], rfl, hl, hi, up_ne' nAP c0, upd_same, nAP, zP', fun a o e => up_ne' (ne_new e zP') (s0 a o e)⟩ ?_
    clear hi hl c0 zP zP' nAP
    generalize AV.lst [.str (tx text)] = hv0
    generalize AV.str (tx text) = ot
    rintro m H2 ⟨text, P⟩ ⟨cur, res, hm, hl, hi, c0, cP, nAP, zP, s2⟩
    dsimp only at hm hl hi cP nAP zP ⊢
    have hlim : text.length ≤ lim := by walk_at "lm"
    walk_at "ws"
    refine f_truS (by rw [tx_len]; exact hlim) ?_
    rw [tx_len]
    rcases hi with ⟨sp, r, tl, he, hcur, hfin⟩ | ⟨r, tl, he, hcur, hfin⟩
    · subst hcur
      have g : GKV r := hg r (hfin ▸ List.mem_append_right _ List.mem_cons_self)
      obtain ⟨a, t, t1, t2, t3, t4, t5, t6⟩ := kv_tok g he
      refine br_t (by have : text.length ≠ 0 := by lia
                      simpa using this) ?_
      walk_at "ws"
      refine re_tok1 hlim t1 t2 t3 ?_
      walk_at "ws"
      refine ac_V lib50 (by kernel_rfl) (unmatched_ok (a := a) (b := a + t) (c := a + t) hlim ?_)
      rw [t4]
      walk_at "ws"
      refine mt_group hlim ?_
      rw [t5]
      have hlen : (61 :: (vlT r.2 ++ enc2 tl)).length < text.length := by
        rw [← t4, List.length_drop]
        lia
      have hlim2 : (61 :: (vlT r.2 ++ enc2 tl)).length ≤ lim := by lia
      have hlen3 : (enc2 tl).length < text.length := by
        rw [List.length_cons, List.length_append] at hlen; lia
      have hv92 : ∀ c ∈ r.2, c ≠ 34 ∧ c ≠ 92 := fun c hc => (g.ve c hc).2
      have hve : ∀ c ∈ r.2, isValEnd c = false := fun c hc => (g.ve c hc).1
      have hvl : r.2.length ≤ lim := by have := g.vl; walk_at "lm"
      have hv92' : r.2.toArray.toList.all (· != 92) = true := List.all_eq_true.mpr fun c hc => by simpa using (g.ve c (by simpa using hc)).2.2
      walk_at "ws"
      by_cases hc : (r.2.all isTokCh && !r.2.isEmpty) = true
      · have e2 : vlT r.2 = r.2 := if_pos hc
        rw [e2] at hlim2 hlen ⊢
        obtain ⟨c, k, hr⟩ := List.exists_cons_of_ne_nil g.vn
        refine re_quo2 (v := r.2 ++ enc2 tl) hlim2 rfl ?_ ?_ ?_
        · rw [hr]
          exact (congrArg (!·) (ve_sp (hve c (hr ▸ List.mem_cons_self))) : _)
        · intro r' e
          rw [hr] at e
          exact (hv92 c (hr ▸ List.mem_cons_self)).1 (List.cons.inj e).1
        walk_at "ws"
        refine re_val1 (v := r.2) (r2 := enc2 tl) hlim2 rfl hve g.vn (enc2_tw (by decide +kernel) tl) ?_
        walk_at "ws"
        refine ac_V lib50 (by kernel_rfl) (unmatched_ok (a := 1) (b := 1 + r.2.length) (c := 1 + r.2.length) hlim2 ?_)
        rw [show (61 :: (r.2 ++ enc2 tl)).drop (1 + r.2.length) = enc2 tl by rw [Nat.add_comm]; exact List.drop_left]
        walk_at "ws"
        refine mt_group hlim2 ?_
        rw [show ((61 :: (r.2 ++ enc2 tl)).drop 1).take (1 + r.2.length - 1) = r.2 by rw [Nat.add_sub_cancel_left]; exact List.take_left]
        walk_at "ws"
        refine e_mg mg_rstrip ?_
        walk_at "ws"
        refine m_rstrip (by rw [tx_len]; exact hvl) ?_
        rw [rstrip_tx fun c hc => ve_sp (hve c hc)]
        walk_at "ws"
        refine ⟨show 2 ≤ lim by walk_at "lm", ?_⟩
        refine v_append cP (Nat.zero_lt_succ _) ?_
        walk_at "ws"
        exact ⟨(enc2 tl).length, _, _, (enc2 tl, P), by lia, rfl, rfl, [r], res, rfl, by dsimp only; lia, .inr ⟨r, tl, rfl, rfl, hfin⟩, up_ne' nAP c0, upd_same, nAP, zP, fun a o e => up_ne' (ne_new e zP) (s2 a o e)⟩
      · have e2 : vlT r.2 = 34 :: (r.2 ++ [34]) := if_neg hc
        have e3 : (vlT r.2 ++ enc2 tl) = 34 :: (r.2 ++ 34 :: enc2 tl) := by rw [e2, List.cons_append, List.append_assoc]; rfl
        rw [e3] at hlim2 hlen ⊢
        refine re_quo1 (v := r.2) (r2 := enc2 tl) hlim2 rfl hv92 ?_
        walk_at "ws"
        refine ac_V lib50 (by kernel_rfl) (unmatched_ok (a := 2) (b := 2 + r.2.length + 1) (c := 2 + r.2.length) hlim2 ?_)
        rw [show (61 :: 34 :: (r.2 ++ 34 :: enc2 tl)).drop (2 + r.2.length + 1) = enc2 tl by
          rw [show 2 + r.2.length + 1 = (r.2.length + 1) + 1 + 1 by lia]
          show (r.2 ++ 34 :: enc2 tl).drop (r.2.length + 1) = _
          rw [← List.drop_drop, List.drop_left]; rfl]
        walk_at "ws"
        refine mt_group hlim2 ?_
        rw [show ((61 :: 34 :: (r.2 ++ 34 :: enc2 tl)).drop 2).take (2 + r.2.length - 2) = r.2 by rw [Nat.add_sub_cancel_left]; exact List.take_left]
        walk_at "ws"
        refine w_lam rfl (by decide +kernel) ?_
        walk_at "ws"
        refine m_sub p70_at (by rw [tx_len]; exact hvl) (esc_0 hv92') ?_
        walk_at "ws"
        refine ⟨show 2 ≤ lim by walk_at "lm", ?_⟩
        refine v_append cP (Nat.zero_lt_succ _) ?_
        walk_at "ws"
        exact ⟨(enc2 tl).length, _, _, (enc2 tl, P), by lia, rfl, rfl, [r], res, rfl, by dsimp only; lia, .inr ⟨r, tl, rfl, rfl, hfin⟩, up_ne' nAP c0, upd_same, nAP, zP, fun a o e => up_ne' (ne_new e zP) (s2 a o e)⟩
    · subst hcur
      have hres : res.length < 20 := by
        have := congrArg List.length hfin
        rw [List.length_append, List.length_cons] at this
        lia
      cases tl with
      | nil =>
        have he' : text = [] := he
        subst he'
        refine br_f rfl ?_
        walk_at "ws"
        refine f_tru (.ref cP) (show 1 ≤ lim by walk_at "lm") ?_
        refine br_t rfl ?_
        walk_at "ws"
        refine v_appendF c0 cP nAP (by rw [List.length_map]; walk_at "lm") ?_
        walk_at "ws"
        refine ⟨_, _, rfl, rfl, fun a o e => up_ne' (ne_new e zA) (dl_sub s2 zP a o e), nofun, fun _ => ?_⟩
        rw [← hfin]
        show _ = some (AObj.list ((res ++ [r]).map _))
        rw [List.map_append]
        exact upd_same
      | cons r' t =>
        have he' : text = 44 :: 32 :: (elV r' ++ enc2 t) := he
        have hne : text.length ≠ 0 := by
          rw [he']
          exact Nat.succ_ne_zero _
        refine br_t (by simpa using hne) ?_
        walk_at "ws"
        refine re_tok0 hlim (by rw [he, enc2_tw sp44]; rfl) (by rw [he, enc2_tw (by decide +kernel)]; rfl) ?_
        walk_at "ws"
        refine m_lstrip (by rw [tx_len]; exact hlim) ?_
        have hls : Txt.lstrip (tx text) = tx text := by rw [he']; exact lstrip_tx sp44
        rw [hls]
        walk_at "ws"
        refine m_startswith ?_
        rw [s_com, show Txt.startswith (tx text) (tx [44]) = true by rw [he', starts_tx]; rfl]
        walk_at "ws"
        refine m_lstrip (by rw [tx_len]; exact hlim) ?_
        rw [hls]
        walk_at "ws"
        refine f_slFrom (a := 1) hlim ?_
        walk_at "ws"
        refine f_tru (.ref cP) (show 1 ≤ lim by walk_at "lm") ?_
        refine br_t rfl ?_
        walk_at "ws"
        refine v_appendF c0 cP nAP (by rw [List.length_map]; walk_at "lm") ?_
        have s3 : SubH H (upd (dl H2 P) A (.list (res.map rowV ++ [.lst ([r].map kvV)]))) := fun a o e => up_ne' (ne_new e zA) (dl_sub s2 zP a o e)
        have c3 : upd (dl H2 P) A (.list (res.map rowV ++ [.lst ([r].map kvV)])) A = some (.list ((res ++ [r]).map rowV)) := by rw [List.map_append]; exact upd_same
        generalize upd (dl H2 P) A (.list (res.map rowV ++ [.lst ([r].map kvV)])) = H3 at *
        walk_at "ws"
        intro M zM
        have zM : H3 M = none := zM
        have zM' : H M = none := by
          cases e : H M with
          | none => rfl
          | some ob => exact nos (zM.symm.trans (s3 _ _ e))
        walk_at "ws"
        refine ⟨(text.drop 1).length, _, _, (text.drop 1, M), by rw [List.length_drop]; lia, rfl, rfl, [], res ++ [r], rfl, by dsimp only; rw [List.length_drop]; lia, .inl ⟨true, r', t, by rw [he']; rfl, rfl, ?_⟩, up_ne' (ne_new c3 zM) c3, upd_same, ne_new c3 zM, zM', fun a o e => up_ne' (ne_new e zM') (s3 a o e)⟩
        rw [← hfin, List.append_assoc]; rfl
  · rintro H1 ⟨s0, _, c0⟩
    refine k_next (w_cons (x_ret (w_frzL 1 (by decide +kernel) rfl (c0 rfl) ?_)))
    walk_at "ws"
    exact ⟨H, dl_sub s0 zA, q⟩
end
section
open PySem PySem.W PyProof.Rows PySem.Calls PySem.SeqAt
theorem addC_one {H : Hp} {base : Nat} {c : AObj} : addC H base [c] = upd H base c := funext fun a => by
  by_cases h : a = base
  · rw [h, addC_ge (Nat.le_refl _), Nat.sub_self]; exact upd_same.symm
  · refine Eq.trans ?_ (upd_ne h).symm
    by_cases hb : base ≤ a
    · rw [addC_ge hb, List.getElem?_eq_none (Nat.sub_pos_of_lt (Nat.lt_of_le_of_ne hb (Ne.symm h)))]; rfl
    · exact addC_lt (Nat.lt_of_not_le hb)
section
variable {T : Top0} {n : Nat} {sc sc0 : Scope} {cells : List (Str × Nat)} {lam : Bool} {elt : Expr} {σ : St} {Ql : List AV → St → Prop} {α : Type}
end
end
section
open PySem PySem.W PyProof.Rows PySem.Calls PySem.SeqAt
theorem Ok.hsw {Φ : Fm} {σ : St} {P : Pt} {a : Addr} {ob ob' : AObj} (ok : Ok Φ σ P) (e : σ.H a = some ob) (h : ∀ o, OP Φ.C P ob o → OP Φ.C P ob' o) : Ok Φ (σ.set a ob') P := by
  refine ⟨⟨ok.m.base, ok.m.al, fun b ob1 e1 => ?_, ok.m.gens, ok.m.os⟩, fun b ob1 e1 => ?_⟩
  · by_cases hL : b = Φ.env.locals
    · subst hL
      exact ok.m.objs _ ob1 ((map_L (σ := σ)).trans ((map_L (σ := σ.set a ob')).symm.trans e1))
    · rw [map_N hL] at e1
      by_cases hb : b = a
      · subst hb
        rw [show (σ.set b ob').H b = some ob' from upd_same] at e1
        obtain rfl := smj e1
        obtain ⟨x, y, o, g, q⟩ := ok.m.objs _ _ (map_H ok e)
        exact ⟨x, y, o, g, h o q⟩
      · rw [show (σ.set a ob').H b = σ.H b from upd_ne hb] at e1
        exact ok.m.objs b ob1 (by rw [map_N hL]; exact e1)
  · by_cases hb : b = a
    · subst hb; exact ok.dj b ob e
    · rw [show (σ.set a ob').H b = σ.H b from upd_ne hb] at e1
      exact ok.dj b ob1 e1
theorem VRs.sw {P : Pt} {u w : AV} (h : ∀ y, VR P u y → VR P w y) : ∀ {xs : List AV} {i : Nat} {its : List Value}, xs[i]? = some u → VRs P xs its → VRs P (xs.set i w) its
  | [], _, _, e, _ => nomatch e
  | a :: r, 0, its, e, q => by
    obtain rfl : a = u := smj e
    obtain ⟨y, ys, rfl, r1, r2⟩ := q.inv
    exact .cons (h y r1) r2
  | a :: r, i + 1, its, e, q => by
    obtain ⟨y, ys, rfl, r1, r2⟩ := q.inv
    exact .cons r1 (VRs.sw h (xs := r) e r2)
section
variable {fs : FS} {H : Hp} {us : List (Option AV)} {ss : List Stmt} {K : AFlow → St → Prop} {S a c : Addr} {xs vs : List AV}
theorem x_frzE (i : Nat) (hS : H S = some (.list xs)) (hi : xs[i]? = some (rf a)) (hH : H a = some (.list vs)) (n : S ≠ a) (q : Wx fs ss (V fs (upd (dl H a) S (.list (xs.set i (.lst vs)))) us) K) : Wx fs ss (V fs H us) K := fun Φ P Q E F ff ok kk => by
  obtain ⟨c, d⟩ := ok.frz (a := a) hH
  refine q Φ (P.fr a) Q E F ff (c.hsw (a := S) (ob := .list xs) ((if_neg n).trans hS) fun o ⟨its, m, e, r⟩ => ⟨its, m, e, VRs.sw (fun y hy => ?_) hi r⟩) fun P' g fl σ' l => kk P' g fl σ' (fr_le.trans l)
  obtain rfl : y = .ref a := hy.inv
  exact d
theorem x_frzC (hc : H c = some (.cell (some (rf S)))) (hS : H S = some (.list xs)) (q : Wx fs ss (V fs (upd (dl H S) c (.cell (some (.lst xs)))) us) K) : Wx fs ss (V fs H us) K := fun Φ P Q E F ff ok kk => by
  obtain ⟨c', d⟩ := ok.frz (a := S) hS
  refine q Φ (P.fr S) Q E F ff (c'.hsw (a := c) (ob := .cell (some (rf S))) ((if_neg (ne_of hc hS rfl)).trans hc) fun o ⟨x, e, r⟩ => ⟨x, e, fun w hw => ?_⟩) fun P' g fl σ' l => kk P' g fl σ' (fr_le.trans l)
  obtain ⟨y, e1, e2⟩ := r _ rfl
  obtain rfl : y = .ref S := e2.inv
  obtain rfl := smj hw
  exact ⟨_, e1, d⟩
end
theorem tk_lt {a b j z m : Nat} (h1 : j < b) (h2 : a + b ≤ z) (h3 : z < m) : a + min j b < m := Nat.lt_of_lt_of_le (Nat.add_lt_add_left (Nat.lt_of_le_of_lt (Nat.min_le_left _ _) h1) _) (Nat.le_of_lt (Nat.lt_of_le_of_lt h2 h3))
section
variable {T : Top0} {n : Nat} {sc sc0 : Scope} {cells : List (Str × Nat)} {lam : Bool} {elt it1 it2 t1 t2 : Expr} {σ : St} {Ql : List AV → St → Prop} {α β : Type}
theorem compCF {x z : Str} {p : Pos} {iter : Expr} {ifs : List Expr} {cs : Nat → List (Str × Nat)} (xs : List α) (g : α → AV) (f : α → Option AV) (ys : List AV) (hy : xs.filterMap f = ys) (h1 : goodComp sc cells = true) (h2 : locs (relabel' sc sc0) = [z]) (h3 : ((relabel' sc sc0).names.lookup x == some .cell) = true) (h4 : cellNames sc = [x])
    (h5 : ∀ base, cellsFrom base sc.names (closC cells sc.names []) = cs base) (h6 : ∀ base, (cs base).lookup x = some base) (hz : xs.length < lim)
    (h : Wi ⟨T, n, sc0, cells, lam⟩ (.Name x p) iter σ fun vs dom s => vs = xs.map g ∧ (∀ H ns, SubH s.H H → dom ⟨H, ns⟩) ∧ (∀ base v, v ∈ xs → s.H base = none → Wif ⟨T, n, relabel' sc sc0, cs base, lam⟩ ifs (V ⟨T, n, relabel' sc sc0, cs base, lam⟩ (upd s.H base (.cell (some (g v)))) [none]) fun c s' => s' = V ⟨T, n, relabel' sc sc0, cs base, lam⟩ (upd s.H base (.cell (some (g v)))) [none] ∧
      Br c (We ⟨T, n, relabel' sc sc0, cs base, lam⟩ elt s' fun w s2 => s2 = s' ∧ f v = some w) (f v = none)) ∧ Ql ys s) :
    Wco ⟨T, n, sc0, cells, lam⟩ elt [⟨.Name x p, iter, ifs, 0⟩] sc σ Ql := c_comp rfl h1 ⟨h.1, fun Φ P K E F ok k => h.2 Φ P K E F ok fun P' I own S vs dom s l ok' fr it s0 zz => k P' I own S vs dom s l ok' fr it s0 fun base hbase => by
  obtain ⟨hvs, hd, hb, q⟩ := zz
  subst hvs
  have h0 : s.H base = none := hbase _ (Nat.le_refl _)
  have sub : ∀ {c}, SubH s.H (upd s.H base c) := fun {c} b ob e => up_ne' (ne_new e h0) e
  unfold compFs
  rw [h4, h5]
  show Wcl _ _ _ _ _ _ _ ⟨addC s.H base [.cell none], []⟩ _
  rw [addC_one]
  refine ⟨fun i acc s' => acc = (xs.take i).filterMap f ∧ ∃ c, s' = V ⟨T, n, relabel' sc sc0, cs base, lam⟩ (upd s.H base (.cell c)) [none], ⟨rfl, none, ?_⟩, fun i acc s' z => by obtain ⟨_, c, e⟩ := z; exact e ▸ hd _ _ sub, fun i v acc s' hv0 z => ?_, fun acc s' z => ?_⟩
  · show _ = (⟨upd s.H base (.cell none), lay (locs (relabel' sc sc0)) [none]⟩ : St); rw [h2]; rfl
  · obtain ⟨ha, c, e⟩ := z
    rw [List.getElem?_map] at hv0
    obtain ⟨v', hv, rfl⟩ := Option.map_eq_some_iff.mp hv0
    have hs : (xs.take (i + 1)).filterMap f = (xs.take i).filterMap f ++ (f v').toList := by
      rw [List.take_succ, hv, List.filterMap_append]
      cases e : f v' with
      | none => rw [Option.toList_some, List.filterMap_cons_none e]; rfl
      | some w => rw [Option.toList_some, List.filterMap_cons_some e]; rfl
    subst e
    refine a_name (s_ce h3 (h6 base) upd_same ?_)
    rw [upd_upd]
    refine fun Φ P K E F ok k => hb base v' (List.mem_of_getElem? hv) h0 Φ P K E F ok fun P' c s2 l ok2 z => k P' c s2 l ok2 ⟨fun hc => ?_, fun hc => ?_⟩
    · refine em_last ((z.2.1 hc).mono fun w s3 y => ⟨?_, ?_, some (g v'), y.1.trans z.1⟩)
      · rw [ha]
        exact Nat.lt_of_le_of_lt (Nat.le_trans (List.length_filterMap_le ..) (List.length_take_le' ..)) hz
      · rw [hs, ha, y.2]; rfl
    · exact ⟨by rw [hs, ha, z.2.2 hc]; exact (List.append_nil _).symm, some (g v'), z.1⟩
  · obtain ⟨ha, c, e⟩ := z
    exact ⟨s.H, e ▸ sub, by rw [ha, List.length_map, List.take_length, hy]; exact q⟩⟩
theorem comp3 {cs : Nat → List (Str × Nat)} (xs : List α) (ls : α → List β) (g1 : α → AV) (g : β → AV) (f : α → β → AV) (us0 : List (Option AV)) (P1 : List (Option AV) → Prop) (P2 : α → List (Option AV) → Prop) (h1 : goodComp sc cells = true) (h0 : lay (locs (relabel' sc sc0)) us0 = []) (h4 : (cellNames sc).isEmpty = true)
    (h5 : ∀ base, cellsFrom base sc.names (closC cells sc.names []) = cs base) (p0 : P1 us0) (p2 : ∀ l us, P2 l us → P1 us) (hz : (xs.map fun a => (ls a).map (f a)).flatten.length < lim)
    (h : Wi ⟨T, n, sc0, cells, lam⟩ t1 it1 σ fun vs dom s => vs = xs.map g1 ∧ (∀ ns, dom ⟨s.H, ns⟩) ∧ (∀ base l us, l ∈ xs → P1 us → Wa ⟨T, n, relabel' sc sc0, cs base, lam⟩ t1 (g1 l) (V ⟨T, n, relabel' sc sc0, cs base, lam⟩ s.H us) fun s' => ∃ us', s' = V ⟨T, n, relabel' sc sc0, cs base, lam⟩ s.H us' ∧ P2 l us' ∧
      Wi ⟨T, n, relabel' sc sc0, cs base, lam⟩ t2 it2 s' fun vs dom s2 => vs = (ls l).map g ∧ s2 = s' ∧ (∀ ns, dom ⟨s.H, ns⟩) ∧ ∀ v us, v ∈ ls l → P2 l us → Wa ⟨T, n, relabel' sc sc0, cs base, lam⟩ t2 (g v) (V ⟨T, n, relabel' sc sc0, cs base, lam⟩ s.H us) fun s' => ∃ us', s' = V ⟨T, n, relabel' sc sc0, cs base, lam⟩ s.H us' ∧ P2 l us' ∧
        We ⟨T, n, relabel' sc sc0, cs base, lam⟩ elt s' fun w s2 => s2 = s' ∧ w = f l v) ∧ Ql (xs.map fun a => (ls a).map (f a)).flatten s) :
    Wco ⟨T, n, sc0, cells, lam⟩ elt [⟨t1, it1, [], 0⟩, ⟨t2, it2, [], 0⟩] sc σ Ql := c_comp rfl h1 ⟨h.1, fun Φ P K E F ok k => h.2 Φ P K E F ok fun P' I own S vs dom s l ok' fr it s0 zz => k P' I own S vs dom s l ok' fr it s0 fun base hbase => by
  obtain ⟨hvs, hd, hb, q⟩ := zz
  subst hvs
  unfold compFs
  rw [List.isEmpty_iff.mp h4, h5]
  show Wcl _ _ _ _ _ _ _ ⟨addC s.H base [], []⟩ _
  rw [addC_nil]
  have le : ∀ i, ((xs.take i).map fun a => (ls a).map (f a)).flatten.length ≤ (xs.map fun a => (ls a).map (f a)).flatten.length := fun i => by
    rw [List.map_take]
    have e := congrArg List.length (congrArg List.flatten (List.take_append_drop i (xs.map fun a => (ls a).map (f a))))
    rw [List.flatten_append, List.length_append] at e
    lia
  refine ⟨fun i acc s' => acc = ((xs.take i).map fun a => (ls a).map (f a)).flatten ∧ ∃ us, s' = V ⟨T, n, relabel' sc sc0, cs base, lam⟩ s.H us ∧ P1 us, ⟨rfl, us0, ?_, p0⟩, fun i acc s' z => by obtain ⟨_, us, e, _⟩ := z; exact e ▸ hd _, fun i v acc s' hv0 z => ?_, fun acc s' z => ?_⟩
  · show _ = (⟨s.H, lay (locs (relabel' sc sc0)) us0⟩ : St); rw [h0]
  · obtain ⟨ha, us, e, hp⟩ := z
    rw [List.getElem?_map] at hv0
    obtain ⟨l, hl, rfl⟩ := Option.map_eq_some_iff.mp hv0
    have hs : ((xs.take (i + 1)).map fun a => (ls a).map (f a)).flatten = ((xs.take i).map fun a => (ls a).map (f a)).flatten ++ (ls l).map (f l) := by
      rw [List.take_succ, hl, List.map_append, List.flatten_append]
      exact congrArg _ (List.append_nil _)
    subst e
    refine fun Φ P y K E F ok r k => hb base l us (List.mem_of_getElem? hl) hp Φ P y K E F ok r fun P' s1 l1 ok1 z => k P' s1 l1 ok1 ?_
    obtain ⟨us1, e1, hp1, hi⟩ := z
    refine c_if0 ⟨fun _ => em_more ⟨hi.1, fun Φ P K E F ok k => hi.2 Φ P K E F ok fun P' I own S vs dom s2 l2 ok2 fr2 it2 z0 z => k P' I own S vs dom s2 l2 ok2 fr2 it2 z0 ?_⟩, nofun⟩
    obtain ⟨hvs, e2, hd2, hb2⟩ := z
    subst hvs e2 e1
    refine ⟨fun j acc s' => acc = ((xs.take i).map fun a => (ls a).map (f a)).flatten ++ ((ls l).take j).map (f l) ∧ ∃ us, s' = V ⟨T, n, relabel' sc sc0, cs base, lam⟩ s.H us ∧ P2 l us, ⟨ha.trans (List.append_nil _).symm, us1, rfl, hp1⟩, fun j acc s' z => by obtain ⟨_, us, e, _⟩ := z; exact e ▸ hd2 _, fun j v acc s' hv0 z => ?_, fun acc s' z => ?_⟩
    · obtain ⟨ha, us, e, hp⟩ := z
      rw [List.getElem?_map] at hv0
      obtain ⟨b, hb0, rfl⟩ := Option.map_eq_some_iff.mp hv0
      subst e
      refine fun Φ P y K E F ok r k => hb2 b us (List.mem_of_getElem? hb0) hp Φ P y K E F ok r fun P' s3 l3 ok3 z => k P' s3 l3 ok3 ?_
      obtain ⟨us3, e3, hp3, hE⟩ := z
      refine c_if0 ⟨fun _ => em_last (hE.mono fun w s4 y => ⟨?_, ?_, us3, y.1.trans e3, hp3⟩), nofun⟩
      · have hj := (List.getElem?_eq_some_iff.mp hb0).1
        have := le (i + 1)
        rw [hs, List.length_append, List.length_map] at this
        rw [ha, List.length_append, List.length_map, List.length_take]
        exact tk_lt hj this hz
      · rw [ha, y.2, List.take_succ, hb0, List.map_append, List.append_assoc]; rfl
    · obtain ⟨ha, us, e, hp⟩ := z
      exact ⟨by rw [ha, List.length_map, List.take_length, hs], us, e, p2 l us hp⟩
  · obtain ⟨ha, us, e, _⟩ := z
    exact ⟨s.H, e ▸ fun _ _ z => z, by rw [ha, List.length_map, List.take_length]; exact q⟩⟩
end
theorem eqs_ints {n : Nat} : ∀ l l' : List Int, EqVs n (ivs l) (ivs l') (decide (l = l'))
  | [], [] => v_nil
  | [], _ :: _ => v_nilc
  | _ :: _, [] => v_cnil
  | i :: l, j :: l' => (show decide (i :: l = j :: l') = (decide (i = j) && decide (l = l')) by simp [List.cons.injEq]) ▸ v_cons v_int (eqs_ints l l')
theorem f_neL {σ : St} {l l' : List Int} {R : Bool → Prop} (q : R (!decide (l = l'))) : ∃ c, Cmp .NotEq (.lst (ivs l)) (.lst (ivs l')) σ c ∧ R c := ⟨_, e_ne (v_lst (eqs_ints (n := 79) l l')), q⟩
end
section
open PySem PySem.W PyProof.Rows
section
variable {H : Hp} {n : Nat} {Q : AV → Hp → Prop}
noncomputable def rowsV (pr : Nat → List Int) : List AV := (List.range 5).map fun k => .lst (ivs (pr k))
noncomputable def SD (pr : Nat → List Int) (k : Int) : Bool := sd (G5 pr) 5 k
noncomputable def stE (pr : Nat → List Int) (ks : List Int) : List (Int × AV) := ks.map fun k => (k, .bool (SD pr k))
noncomputable abbrev csG (base : Nat) : List (Str × Nat) := [("stands", base)]
noncomputable abbrev usG (pr : Nat → List Int) (so k ri re : Option AV) : List (Option AV) := [some (.lst (rowsV pr)), so, k, ri, re]
inductive Ga1 (H0 : Hp) (base : Addr) (pr : Nat → List Int) (i : Addr) (k : Nat) (H : Hp) : Prop
  | mk (L : Lay) (x : SR H i L (GT pr k) .none 0 0) (b : Bg H0 H L (GT pr k) i) (d0 : H base = some (.cell none)) : Ga1 H0 base pr i k H
inductive Ga2 (H0 : Hp) (base : Addr) (pr : Nat → List Int) (i : Addr) (H : Hp) (b : Bool) : Prop
  | mk (L : Lay) (R : Addr) (x : SR H i L (GT pr 5) (rf R) 0 0) (cR : H R = some (.list (ivs (GT pr 5).free))) (zR : H0 R = none) (hRn : ∀ k ∈ (GT pr 5).nodes, R ≠ L.sl k) (bg : Bg H0 H L (GT pr 5) i) (d0 : H base = some (.cell none)) (hb : b = !(G5 pr).nodes.all (Fr (G5 pr) 5)) : Ga2 H0 base pr i H b
noncomputable def GP (pr : Nat → List Int) (np : Int → Int) : PS := ⟨(GT pr 5).nodes, np, (GT pr 5).su⟩
inductive Gb (H0 : Hp) (base : Addr) (pr : Nat → List Int) (i R D : Addr) (L : Lay) (m : Nat) (H : Hp) (r : List Int) : Prop
  | mk (t : Nat) (np : Int → Int) (ks : List Int) (ep : Nat) (p f : Int) (K : KI (G5 pr) t np r) (x : SR H i L (GP pr (allNp np r (-1))) (rf R) p f) (cR : H R = some (.list (ivs []))) (c0 : H base = some (.cell (some (rf D)))) (cD : H D = some (.dictI (stE pr ks) ep)) (kn : ks.Nodup)
      (km : ∀ k, k ∈ ks ↔ k ∈ (G5 pr).nodes ∧ Fr (G5 pr) t k = true) (hm : m = unfr (G5 pr) t) (s : SubH H0 H) : Gb H0 base pr i R D L m H r
inductive Gc (H0 : Hp) (base : Addr) (pr : Nat → List Int) (i R D : Addr) (L : Lay) (np : Int → Int) (ks r : List Int) (p f : Int) (idx : Nat) (H : Hp) : Prop
  | mk (ep : Nat) (x : SR H i L (GP pr (allNp np r (-1))) (rf R) p f) (cR : H R = some (.list (ivs []))) (c0 : H base = some (.cell (some (rf D)))) (cD : H D = some (.dictI (stE pr (ks ++ r.take idx)) ep)) (s : SubH H0 H) : Gc H0 base pr i R D L np ks r p f idx H
theorem SD_rec {pr : Nat → List Int} {k : Int} (h : Fr (G5 pr) 5 k = true) : SD pr k = !((pr k.toNat).any (SD pr)) := (sd_fix 5 k h 1).symm
theorem fr_5 {pr : Nat → List Int} (O : PrOk pr) {t : Nat} {k : Int} (hk : k ∈ (G5 pr).nodes) (h : Fr (G5 pr) t k = true) : Fr (G5 pr) 5 k = true := by
  by_cases ht : t ≤ 5
  · exact Fr.le ht h
  · have hst : Stb (G5 pr) 5 := G5_len O ▸ stb_len (G5_ok O)
    rw [← hst.all (G5_ok O) (t - 5) k hk, show 5 + (t - 5) = t by lia]; exact h
theorem fr_end {pr : Nat → List Int} (O : PrOk pr) {t : Nat} {np : Int → Int} (K : KI (G5 pr) t np []) {k : Int} (hk : k ∈ (G5 pr).nodes) (h : Fr (G5 pr) 5 k = true) : Fr (G5 pr) t k = true := by
  by_cases ht : t ≤ 5
  · have hs : Stb (G5 pr) t := fun j hj => by
      cases e : Fr (G5 pr) t j
      · cases e' : Fr (G5 pr) (t + 1) j
        · rfl
        · exact (List.not_mem_nil ((K.mem j).mpr ⟨hj, e', e⟩)).elim
      · exact Fr.mono _ _ e
    rw [← hs.all (G5_ok O) (5 - t) k hk, show t + (5 - t) = 5 by lia]; exact h
  · exact Fr.le (by lia) h
theorem any_ct (p : Int → Bool) (l : List Int) : (l.map p).contains true = l.any p := by
  induction l with
  | nil => rfl
  | cons a r ih =>
    rw [List.map_cons, List.contains_cons, List.any_cons, ih]
    cases p a <;> rfl
theorem unfr_step {G : Gr} (O : GrOk G) {t : Nat} {np : Int → Int} {r : List Int} (K : KI G t np r) : unfr G t = r.length + unfr G (t + 1) := by
  have := filt_split (fun k => !Fr G t k) (fun k => !Fr G (t + 1) k) (fun x h => by
    cases hx : Fr G t x
    · rfl
    · rw [Fr.mono t x hx] at h; cases h) G.nodes
  unfold unfr
  rw [this]
  congr 1
  refine (nd_eq (O.nd.filter _) K.nd fun x => ?_)
  rw [List.mem_filter, K.mem]
  constructor
  · rintro ⟨a, b⟩
    obtain ⟨b, c⟩ := Bool.and_eq_true_iff.mp b
    exact ⟨a, by simpa using c, by simpa using b⟩
  · rintro ⟨a, b, c⟩
    exact ⟨a, by rw [b, c]; rfl⟩
theorem GT_bd {pr : Nat → List Int} (O : PrOk pr) {k : Nat} (h : k ≤ 5) : Bd (GT pr k) 5 := by
  have I := GT_inv O.nd k
  refine ⟨?_, fun j => ?_⟩
  · rw [← G5_len O]
    exact nd_len' _ _ I.nd fun x hx => by
      rw [G5_mem O]
      rcases (I.mem x).mp hx with h' | ⟨i, _, h'⟩
      · lia
      · exact O.mem i x h'
  · rw [I.su, List.length_map]
    refine Nat.le_trans (List.length_filter_le _ _) ?_
    rw [List.length_range]; exact h
theorem nats_get {n k : Nat} {v : AV} (h : (nats n)[k]? = some v) : k < n ∧ v = .int (k : Nat) := by
  unfold nats at h
  rw [List.getElem?_map] at h
  obtain ⟨j, hj, rfl⟩ := Option.map_eq_some_iff.mp h
  have h1 := (List.getElem?_eq_some_iff.mp hj).1
  rw [List.length_range] at h1
  rw [List.getElem?_range h1] at hj
  obtain rfl := smj hj
  exact ⟨h1, rfl⟩
theorem rows_get {pr : Nat → List Int} {k : Nat} (h : k < 5) : (rowsV pr)[k]? = some (.lst (ivs (pr k))) := by
  unfold rowsV
  rw [List.getElem?_map, List.getElem?_range h]; rfl
theorem rows_len {pr : Nat → List Int} : (rowsV pr).length = 5 := rfl
theorem pr_len {pr : Nat → List Int} (O : PrOk pr) (k : Nat) : (pr k).length ≤ 5 := by
  rw [← G5_len O]
  exact nd_len' _ _ (O.nd k) fun x hx => (G5_mem O).mpr (O.mem k x hx)
theorem given_ok (pr : Nat → List Int) (O : PrOk pr) (q : ∀ H' D ep ks, SubH H H' → H D = none → H' D = some (.dictI (stE pr ks) ep) → ks.Nodup → (∀ k, k ∈ ks ↔ (0 ≤ k ∧ k < 5) ∧ Fr (G5 pr) 5 k = true) → Q (.tup [.bool (!(G5 pr).nodes.all (Fr (G5 pr) 5)), rf D]) H') :
    Body TT (n + 4) (fnOf 248) [("strikers", .lst (rowsV pr))] H Q := by
  with_reducible refine body_c (cs := csG) (us := usG pr none none none none) (fun _ => by kernel_rfl) (by decide +kernel) (by kernel_rfl) fun base H1 hs hb hc => ?_
  have c0 : H1 base = some (.cell none) := hc 0 "stands" (by kernel_rfl)
  have b0 : H base = none := hb _ (Nat.le_refl _)
  clear hc hb
  conv => arg 2; whnf
  walk_at "ws"
  refine new_ok fun H2 i L x0 s0 o0 i0 => ?_
  have hBg : Bg H H2 L (GT pr 0) i := ⟨fun a ob e => s0 _ _ (hs _ _ e), fun a ob e z => nos ((o0 a z).symm.trans (hs _ _ e))⟩
  have d0 : H2 base = some (.cell none) := s0 _ _ c0
  have iH : H i = none := sub_no hs i0
  have x0 : SR H2 i L (GT pr 0) .none 0 0 := x0
  clear s0 o0 i0 c0
  walk_at "ws"
  refine x_forC (by decide +kernel) (i_plain (fun _ _ => rfl) ?_)
  walk_at "ws"
  refine bu_range (e_sr (sr_rng (n := 5) (by walk_at "lm")) ⟨H2, usG pr (some (rf i)) none none none, rfl, Ga1 H base pr i, ⟨L, x0, hBg, d0⟩, fun _ _ _ _ => trivial, ?_, ?_⟩)
  · clear x0 hBg d0
    rintro k v H3 hv ⟨L, x1, bg, d0⟩
    obtain ⟨hk, rfl⟩ := nats_get hv
    walk_at "ws"
    refine w_mineS (fun _ _ => rfl) rfl rfl mo_add ?_
    have h1 := x1.inst
    have h2 := x1.att
    walk_at "ws"
    refine f_list (.lst _) (by rw [rows_len]; exact seq_nat hk (by walk_at "lm")) (rows_get hk) ?_
    have hpl := pr_len O k
    refine ⟨_, .li (.lst _), by rw [ivs_len]; walk_at "lm", ?_⟩
    walk_at "ws"
    rw [List.append_nil]
    refine fc_V (binds := [("self", rf i), ("node", .int k), ("predecessors", .tup (ivs (pr k)))]) lib184 (bind184 (by rw [ivs_len]; lia)) (add_ok (m := 5) x1 (GT_bd O (by lia)) (by lia) fun H5 L5 x5 y5 => ?_)
    have b5 := bg.ex y5
    have f0 := y5.fr _ _ d0 (x1.notOwn_cell d0)
    walk_at "ws"
    exact ⟨_, _, rfl, rfl, L5, x5, b5, f0⟩
  · clear x0 hBg d0
    rintro H3 ⟨L, x1, bg, d0⟩
    have hlen : (nats 5).length = 5 := rfl
    rw [hlen] at x1 bg
    have hnl : (GT pr 5).nodes.length = 5 := G5_len O
    have h1 := x1.inst
    have h2 := x1.att
    walk_at "ws"
    have hsu : ∀ k ∈ (GT pr 5).nodes, ∀ j ∈ (GT pr 5).su k, j ∈ (GT pr 5).nodes := fun k hk j hj => (((G5_ok O).edge k hk j).mp hj).1
    have hst : Stb (G5 pr) 5 := G5_len O ▸ stb_len (G5_ok O)
    refine w1_cut (fun b : Bool => usG pr (some (rf i)) none (some (.bool b)) none) (Ga2 H base pr i) (x_tryE (n := n + 3) (fun _ _ => rfl) rfl rfl mo_prepare lib189 (show ((fnOf 248).scope.names.lookup ("CycleError" : Str) == some .globalImplicit && !badName "CycleError") = true by decide +kernel) rfl ?_) ?_
    · walk_at "ws"
      have fin : ∀ (H4 : Hp) (R : Addr) (b : Bool), SR H4 i L (GT pr 5) (rf R) 0 0 → H4 R = some (.list (ivs (GT pr 5).free)) → H3 R = none → (∀ a o, H3 a = some o → a ≠ L.d → H4 a = some o) → b = (!(G5 pr).nodes.all (Fr (G5 pr) 5)) → Ga2 H base pr i H4 b := fun H4 R b x2 cR zR hf hb =>
        ⟨L, R, x2, cR, sub_no bg.sub zR, fun k hk => Ne.symm (ne_new (x1.suc k hk) zR), ⟨fun a ob e => hf a ob (bg.sub a ob e) fun z => bg.no a ob e (.inl z), bg.no⟩, hf _ _ d0 (ne_of d0 h2 rfl), hb⟩
      refine ⟨i, [("self", rf i)], rfl, is_inst h1 h2, by kernel_rfl, prepare_okE x1 hsu (by lia) (fun hac H4 R x2 cR zR hd hf => ?_) fun hcyc H4 R x2 cR zR hd hf => ?_⟩
      · obtain ⟨fl, ht, hall⟩ := hac
        refine ⟨H4, _, false, rfl, rfl, fin H4 R false x2 cR zR hf ?_⟩
        rw [show (G5 pr).nodes.all (Fr (G5 pr) 5) = true from List.all_eq_true.mpr fun k hk => ?_]; rfl
        cases e : Fr (G5 pr) 5 k
        · obtain ⟨C, c1, c2, c3⟩ := cyc_of (G5_ok O) hst hk e
          exact (topo_acyc ht C c1 (fun x hx => hall x (c2 x hx)) c3).elim
        · rfl
      · refine hv_set 3 (by decide +kernel) rfl (hs_nil ⟨H4, _, true, rfl, rfl, fin H4 R true x2 cR zR hf ?_⟩)
        obtain ⟨C, c1, c2, c3⟩ := hcyc
        cases hC : C with
        | nil => exact absurd hC c1
        | cons y r =>
          have hy : y ∈ C := hC ▸ List.mem_cons_self
          have := cyc_not (G5_ok O) c2 c3 5 y hy
          cases e : (G5 pr).nodes.all (Fr (G5 pr) 5)
          · rfl
          · exact ff (this.symm.trans (List.all_eq_true.mp e y (c2 y hy)))
    clear x1 bg d0 h1 h2
    rintro H4 b ⟨L, R, x1, cR, zR, hRn, bg, d0, hb⟩
    have h1 := x1.inst
    have h2 := x1.att
    walk_at "ws"
    intro D zD
    have zD : H4 D = none := zD
    have e0 : upd H4 D (.dictI [] 0) base = some (.cell none) := up_ne' (ne_new d0 zD) d0
    have nDb : D ≠ base := Ne.symm (ne_new d0 zD)
    have nDi : D ≠ i := Ne.symm (ne_new h1 zD)
    have nDR : D ≠ R := Ne.symm (ne_new cR zD)
    have zDH : H D = none := sub_no bg.sub zD
    have hno : ¬ own L (GT pr 5) D := fun z => z.elim (fun z => ne_new h2 zD z.symm) fun z => z.elim (fun z => let ⟨_, h3⟩ := x1.dict; ne_new h3 zD z.symm) fun ⟨k, hk, z⟩ => z.elim (fun z => ne_new (x1.info k hk) zD z.symm) fun z => ne_new (x1.suc k hk) zD z.symm
    have x2 : SR (upd (upd H4 D (.dictI [] 0)) base (.cell (some (rf D)))) i L (GT pr 5) (rf R) 0 0 := (x1.other nDi hno).other (ne_of e0 (up_ne' (Ne.symm nDi) h1) rfl) ((x1.other nDi hno).notOwn_cell e0)
    have cR2 : upd (upd H4 D (.dictI [] 0)) base (.cell (some (rf D))) R = some (.list (ivs (GT pr 5).free)) := up_ne' (ne_of cR d0 rfl) (up_ne' (Ne.symm nDR) cR)
    have c0 : upd (upd H4 D (.dictI [] 0)) base (.cell (some (rf D))) base = some (.cell (some (rf D))) := upd_same
    have cD : upd (upd H4 D (.dictI [] 0)) base (.cell (some (rf D))) D = some (.dictI [] 0) := up_ne' nDb upd_same
    have s2 : SubH H (upd (upd H4 D (.dictI [] 0)) base (.cell (some (rf D)))) := up_sub (up_sub bg.sub zDH) b0
    have hB := bg.no
    have nDD : D ≠ L.D := let ⟨_, h3⟩ := x1.dict; Ne.symm (ne_new h3 zD)
    clear h1 h2
    have h1 := x2.inst
    have h2 := x2.att
    walk_at "ws"
    generalize upd (upd H4 D (.dictI [] 0)) base (.cell (some (rf D))) = H5 at *
    clear x1 cR d0 e0 zD bg hno
    have I := GT_inv O.nd 5
    have hK := KI.start (G5_ok O) (np := (GT pr 5).np) fun k hk => by
      have := (G5_mem O).mp hk
      rw [I.np k, if_pos (by lia)]; rfl
    have hfm : ∀ k ∈ (GT pr 5).free, k ∈ (GT pr 5).nodes := fun k hk => (List.mem_filter.mp hk).1
    have nd5 : ∀ {r : List Int} {t : Nat} {np : Int → Int}, KI (G5 pr) t np r → r.length ≤ 5 := fun {r t np} K => by
      rw [← G5_len O]; exact nd_len' _ _ K.nd fun k hk => ((K.mem k).mp hk).1
    refine fc_V lib196 (by kernel_rfl) (get_ready_ok x2 cR2 hRn hfm (by have := nd5 hK; exact Nat.le_trans this (by decide)) fun H6 x6 cR6 z6 => ?_)
    have c06 := z6.fr _ _ c0 (x2.notOwn_cell c0) (ne_of c0 cR2 rfl)
    have hnoD : ∀ {H : Hp} {S : PS} {p f : Int} {es : List (Int × AV)} {ep : Nat}, SR H i L S (rf R) p f → H D = some (.dictI es ep) → D ≠ L.D → ¬ own L S D := fun x e n z => z.elim (fun z => ne_of e x.att rfl z) fun z => z.elim n fun ⟨k, hk, z⟩ => z.elim (fun z => ne_of e (x.info k hk) rfl z) fun z => ne_of e (x.suc k hk) rfl z
    walk_at "ws"
    have fx : ∀ {HA HB : Hp} {S : PS} {rr : List Int} {p f : Int}, SR HA i L S (rf R) p f → S.nodes = (GT pr 5).nodes → HA R = some (.list (ivs rr)) → Fz HA HB L S R → HA base = some (.cell (some (rf D))) → SubH H HA → HB base = some (.cell (some (rf D))) ∧ SubH H HB ∧ ∀ es ep, HA D = some (.dictI es ep) → HB D = some (.dictI es ep) :=
      fun {HA HB S rr p f} x e cR z c0 s => ⟨z.fr _ _ c0 (x.notOwn_cell c0) (ne_of c0 cR rfl), fun a ob e' => z.fr a ob (s a ob e') (by unfold own; rw [e]; exact hB a ob e') (ne_new e' zR), fun es ep cD => z.fr _ _ cD (hnoD x cD nDD) nDR⟩
    obtain ⟨-, s6, cD6⟩ := fx x2 rfl cR2 z6 c0 s2
    have cD6 := cD6 _ _ cD
    refine x_whileC (fun r : List Int => usG pr (some (rf i)) none (some (.bool b)) (some (.tup (ivs r)))) (unfr (G5 pr) 0) (GT pr 5).free (by decide +kernel) (Gb H base pr i R D L) ⟨0, _, [], _, _, _, hK, x6, cR6, c06, cD6, .nil, (fun k => ⟨fun z => (List.not_mem_nil z).elim, fun ⟨_, z⟩ => ff z⟩), rfl, s6⟩ ?_
    clear x2 cR2 c0 cD s2 h1 h2 hK x6 cR6 z6 c06 s6 cD6 hfm I
    rintro m H7 r ⟨t, np, ks, ep, p, f, K, x7, cR, c0, cD, kn, km, hm, s7⟩
    have hrl := nd5 K
    have hkl : ks.length ≤ 5 := by rw [← G5_len O]; exact nd_len' _ _ kn fun k hk => ((km k).mp hk).1
    have hrm : ∀ k ∈ r, k ∈ (G5 pr).nodes := fun k hk => ((K.mem k).mp hk).1
    walk_at "ws"
    refine ⟨_, tr_tup (by rw [ivs_len]; walk_at "lm"), ?_⟩
    cases r with
    | nil =>
      refine br_f rfl ?_
      walk_at "ws"
      refine ⟨show 2 ≤ lim by walk_at "lm", H7, fun _ _ z => z, ?_⟩
      rw [hb]
      refine q H7 D ep ks s7 zDH cD kn fun k => ?_
      rw [km k, ← G5_mem O]
      exact ⟨fun ⟨a, c⟩ => ⟨a, fr_5 O a c⟩, fun ⟨a, c⟩ => ⟨a, fr_end O K a c⟩⟩
    | cons y0 r0 =>
      have hus := unfr_step (G5_ok O) K
      have hpos : 0 < (y0 :: r0).length := Nat.succ_pos _
      refine br_t rfl ?_
      generalize hrd : y0 :: r0 = r at *
      clear hrd
      have hkr : ∀ k ∈ r, k ∉ ks := fun k hk z => by
        have h1 := ((K.mem k).mp hk).2.2
        rw [((km k).mp z).2] at h1; cases h1
      walk_at "ws"
      refine x_forC (by decide +kernel) (i_plain (fun _ _ => rfl) ?_)
      walk_at "ws"
      refine e_sr sr_tup ⟨H7, usG pr (some (rf i)) none (some (.bool b)) (some (.tup (ivs r))), rfl, Gc H base pr i R D L np ks r p f, ⟨ep, x7, cR, c0, by rw [List.take_zero, List.append_nil]; exact cD, s7⟩, fun _ _ _ _ => trivial, ?_, ?_⟩
      · clear x7 cR c0 cD s7
        rintro idx v H8 hv ⟨ep, x8, cR, c0, cD, s8⟩
        obtain ⟨k, hk, rfl⟩ := ivs_get hv
        have hkm : k ∈ r := List.mem_of_getElem? hk
        obtain ⟨hkn, hk1, hk0⟩ := (K.mem k).mp hkm
        have hkb := (G5_mem O).mp hkn
        have hF5 := fr_5 O hkn hk1
        obtain ⟨kN, rfl⟩ : ∃ kN : Nat, k = kN := ⟨k.toNat, by lia⟩
        have hkN : kN < 5 := by lia
        have hpl := pr_len O kN
        have hpre : ∀ j ∈ pr kN, j ∈ ks := fun j hj => (km j).mpr ⟨(G5_ok O).pm _ hkn j hj, List.all_eq_true.mp hk1 j hj⟩
        walk_at "ws"
        refine w_comp (compM (z := ".0") (cs := fun _ => [("stands", base)]) (pr kN) .int (fun j => .bool (SD pr j)) (((pr kN).map (SD pr)).map .bool) (by rw [List.map_map]; rfl) rfl (by kernel_rfl) (by decide +kernel) rfl (fun _ => by kernel_rfl) (by walk_at "lm") (i_plain (fun _ _ => rfl) ?_))
        walk_at "ws"
        refine f_list (.lst _) (by rw [rows_len]; exact seq_nat hkN (by walk_at "lm")) (rows_get hkN) ?_
        refine e_sr sr_lst ⟨rfl, fun _ => trivial, fun b2 j hj => ?_, ?_⟩
        · walk_at "ws"
          refine m_getD (es := stE pr (ks ++ r.take idx)) (ep := ep) (by exact cD) ?_
          unfold stE
          rw [lookup_map (f := fun k => .bool (SD pr k)), if_pos (List.mem_append_left _ (hpre j hj))]
          exact ⟨rfl, rfl⟩
        · refine e_cmp (n_liBN (.lst _)) ?_
          rw [any_ct, show (!(pr kN).any (SD pr)) = SD pr kN from (SD_rec hF5).symm]
          walk_at "ws"
          refine v_dict cD (by unfold stE; rw [List.length_map, List.length_append, List.length_take]; walk_at "lm") ?_
          have hkt : (kN : Int) ∉ r.take idx := fun z => by
            have := (List.take_sublist (idx + 1) r).nodup K.nd
            rw [take_succ hk] at this
            exact (List.nodup_append.mp this).2.2 _ z _ (List.mem_singleton.mpr rfl) rfl
          have hnew : (kN : Int) ∉ (stE pr (ks ++ r.take idx)).map (·.1) := by
            unfold stE
            rw [List.map_map, show ((fun x : Int × AV => x.1) ∘ fun k => (k, AV.bool (SD pr k))) = id from rfl, List.map_id]
            exact fun z => (List.mem_append.mp z).elim (hkr _ hkm) hkt
          rw [gPut_new hnew]
          walk_at "ws"
          have hno : ¬ own L (GP pr (allNp np r (-1))) D := hnoD x8 cD nDD
          refine ⟨_, _, rfl, rfl, if (stE pr (ks ++ r.take idx)).any (·.1 == (kN : Int)) then ep else ep + 1, x8.other nDi hno, up_ne' (Ne.symm nDR) cR, up_ne' (Ne.symm nDb) c0, ?_, fun a o e => up_ne' (ne_new e zDH) (s8 a o e)⟩
          rw [show stE pr (ks ++ r.take (idx + 1)) = stE pr (ks ++ r.take idx) ++ [((kN : Int), .bool (SD pr kN))] from by
            rw [take_succ hk, ← List.append_assoc]
            exact List.map_append]
          exact upd_same
      · clear x7 cR c0 cD s7
        rintro H8 ⟨ep, x8, cR, c0, cD, s8⟩
        rw [ivs_len, List.take_length] at cD
        have h1 := x8.inst
        have h2 := x8.att
        walk_at "ws"
        refine ⟨_, .tup _, by rw [ivs_len]; walk_at "lm", ?_⟩
        walk_at "ws"
        have hsl : ∀ j, ((GT pr 5).su j).length ≤ 5 := (GT_bd O (Nat.le_refl 5)).2
        refine fc_V (binds := [("self", rf i), ("nodes", .tup (ivs r))]) lib217 (bind217 (by rw [ivs_len]; lia)) (done_ok (L := L) (S := GP pr (allNp np r (-1))) (R := R) (r := []) (nodes := r) (m := 5) (p := p) (f := f) x8 cR hRn hrm hsu ⟨by lia, Nat.zero_le _, by lia⟩ hsl (K.out (G5_ok O)) fun H9 x9 cR9 z9 => ?_)
        obtain ⟨c09, s9, cD9⟩ := fx x8 rfl cR z9 c0 s8
        have cD9 := cD9 _ _ cD
        have K1 := K.step (G5_ok O)
        have g1 := x9.inst
        have g2 := x9.att
        generalize hnr : r.foldl (done1 (GP pr (allNp np r (-1))).su) ((GP pr (allNp np r (-1))).np, []) = nr at *
        have K1 : KI (G5 pr) (t + 1) nr.1 nr.2 := hnr ▸ K1
        walk_at "ws"
        refine fc_V lib196 (by kernel_rfl) (get_ready_ok x9 cR9 hRn (fun k hk => ((K1.mem k).mp hk).1) (by have := nd5 K1; lia) fun H10 x10 cR10 z10 => ?_)
        obtain ⟨c010, s10, cD10⟩ := fx x9 rfl cR9 z10 c09 s9
        have cD10 := cD10 _ _ cD9
        walk_at "ws"
        refine ⟨unfr (G5 pr) (t + 1), _, _, nr.2, by lia, rfl, rfl, t + 1, nr.1, ks ++ r, _, _, _, K1, x10, cR10, c010, cD10, ?_, fun k => ?_, rfl, s10⟩
        · exact List.nodup_append.mpr ⟨kn, K.nd, fun a ha c hc e => hkr c hc (e ▸ ha)⟩
        · rw [List.mem_append, km k, K.mem k]
          constructor
          · rintro (⟨a, c⟩ | ⟨a, c, _⟩)
            · exact ⟨a, Fr.mono _ _ c⟩
            · exact ⟨a, c⟩
          · rintro ⟨a, c⟩
            cases e : Fr (G5 pr) t k
            · exact .inr ⟨a, c, rfl⟩
            · exact .inl ⟨a, rfl⟩
end
end
section
open PySem PySem.W PyProof.Rows
noncomputable def hostL : List (List Nat) := [[97, 97, 46, 108, 111, 99, 97, 108], [97, 98, 46, 108, 111, 99, 97, 108], [98, 98, 46, 108, 111, 99, 97, 108], [98, 97, 46, 108, 111, 99, 97, 108], [99, 97, 46, 108, 111, 99, 97, 108]]
noncomputable def globL : List (List Nat) := [[97, 63, 46, 108, 111, 99, 97, 108], [63, 97, 46, 108, 111, 99, 97, 108], [98, 42], [42, 98, 46, 108, 111, 99, 97, 108], [99, 42], [97, 97, 46, 108, 111, 99, 97, 108], [42, 99, 42], [98, 97, 42], [42, 120, 42]]
noncomputable def tblL : List (List Int) := [[0, 1], [0, 3, 4], [2, 3], [1, 2], [4], [0], [0, 1, 2, 3, 4], [3], []]
noncomputable def hosT (j : Nat) : List Nat := hostL.getD j []
noncomputable def gloT (d : Nat) : List Nat := globL.getD d []
noncomputable def tbl (d : Nat) : List Int := tblL.getD d []
noncomputable def tkn (d : Nat) (j : Nat) : Bool := (((gloT d).foldl trS []).foldl (tkS (hosT j)) [0]).contains (hosT j).length
theorem taken_tab {d : Nat} (hd : d < 9) : (List.range 5).filter (tkn d) = (tbl d).map Int.toNat := by
  have : ∀ d : Fin 9, (List.range 5).filter (tkn d) = (tbl d).map Int.toNat := by decide +kernel
  exact this ⟨d, hd⟩
theorem tbl_ok {d : Nat} (hd : d < 9) : (tbl d).Nodup ∧ (∀ x ∈ tbl d, 0 ≤ x ∧ x < 5) ∧ (tbl d).length ≤ 5 := by
  have : ∀ d : Fin 9, (tbl d).Nodup ∧ (∀ x ∈ tbl d, 0 ≤ x ∧ x < 5) ∧ (tbl d).length ≤ 5 := by decide +kernel
  exact this ⟨d, hd⟩
theorem glo_ok {d : Nat} (hd : d < 9) : (∀ c ∈ gloT d, c < 128 ∧ c ≠ 91) ∧ (gloT d).length ≤ 8 ∧ gloT d ≠ [] ∧ (∀ c ∈ gloT d, isValEnd c = false ∧ c ≠ 34 ∧ c ≠ 92) ∧ ((gloT d).foldl trS []).length ≤ 10 := by
  have : ∀ d : Fin 9, (∀ c ∈ gloT d, c < 128 ∧ c ≠ 91) ∧ (gloT d).length ≤ 8 ∧ gloT d ≠ [] ∧ (∀ c ∈ gloT d, isValEnd c = false ∧ c ≠ 34 ∧ c ≠ 92) ∧ ((gloT d).foldl trS []).length ≤ 10 := by decide +kernel
  exact this ⟨d, hd⟩
theorem hos_ok {j : Nat} (hj : j < 5) : (hosT j).length = 8 ∧ ∀ c ∈ hosT j, isSep c = false := by
  have : ∀ j : Fin 5, (hosT j).length = 8 ∧ ∀ c ∈ hosT j, isSep c = false := by decide +kernel
  exact this ⟨j, hj⟩
noncomputable def drw (vs : List Int) : List Int := (vs.take 5 ++ ([0, 3, 7, 8, 8] : List Int).drop vs.length).map (·.fmod 9)
noncomputable def dr (vs : List Int) (k : Nat) : Nat := ((drw vs).getD k 0).toNat
theorem drw_len (vs : List Int) : (drw vs).length = 5 := by
  unfold drw
  rw [List.length_map, List.length_append, List.length_take, List.length_drop]
  show min 5 vs.length + (5 - vs.length) = 5
  rcases Nat.le_total 5 vs.length with h | h
  · rw [Nat.min_eq_left h, Nat.sub_eq_zero_of_le h]
  · rw [Nat.min_eq_right h, Nat.add_sub_cancel' h]
theorem drw_mem {vs : List Int} {x : Int} (h : x ∈ drw vs) : 0 ≤ x ∧ x < 9 := by
  obtain ⟨v, _, rfl⟩ := List.mem_map.mp h
  exact ⟨Int.fmod_nonneg_of_pos v (by decide), Int.fmod_lt_of_pos v (by decide)⟩
theorem drw_at (vs : List Int) {k : Nat} (hk : k < 5) : (drw vs)[k]? = some (dr vs k : Nat) ∧ dr vs k < 9 := by
  have hl : k < (drw vs).length := by rw [drw_len]; exact hk
  have e : (drw vs)[k]? = some (drw vs)[k] := List.getElem?_eq_getElem hl
  have := drw_mem (List.getElem_mem hl)
  unfold dr
  rw [List.getD_eq_getElem?_getD, e]
  show some _ = some (((drw vs)[k]).toNat : Int) ∧ ((drw vs)[k]).toNat < 9
  exact ⟨congrArg some (by lia), by lia⟩
noncomputable def stk (d : Nat → Nat) (k j : Nat) : List Int := ((List.range k).filter fun i => (tbl (d i)).contains (j : Int) && i != j).map fun (i : Nat) => (i : Int)
theorem stk_succ (d : Nat → Nat) (k j : Nat) : stk d (k + 1) j = stk d k j ++ if ((tbl (d k)).contains (j : Int) && k != j) = true then [(k : Int)] else [] := by
  unfold stk
  rw [List.range_succ, List.filter_append, List.map_append]
  by_cases h : ((tbl (d k)).contains (j : Int) && k != j) = true
  · rw [if_pos h, List.filter_cons_of_pos (p := fun i => (tbl (d i)).contains (j : Int) && i != j) h]; rfl
  · rw [if_neg h, List.filter_cons_of_neg (p := fun i => (tbl (d i)).contains (j : Int) && i != j) h]; rfl
theorem stk_ok (d : Nat → Nat) : PrOk (stk d 5) := by
  refine ⟨fun i => List.pairwise_map.mpr ((List.nodup_range.filter _).imp fun h e => h (by lia)), fun i x hx => ?_⟩
  obtain ⟨j, hj, rfl⟩ := List.mem_map.mp hx
  have := List.mem_range.mp (List.mem_filter.mp hj).1
  lia
theorem stk_len (d : Nat → Nat) (k j : Nat) : (stk d k j).length ≤ k := by
  unfold stk
  rw [List.length_map]
  exact Nat.le_trans (List.length_filter_le _ _) (by rw [List.length_range]; exact Nat.le_refl _)
section
variable {pr : Nat → List Int}
noncomputable def FL (pr : Nat → List Int) (t : Nat) : List Int := ((List.range 5).filter fun k => Fr (G5 pr) t (k : Nat)).map fun (k : Nat) => (k : Int)
theorem FL_mem {t : Nat} {x : Int} : x ∈ FL pr t ↔ (0 ≤ x ∧ x < 5) ∧ Fr (G5 pr) t x = true := by
  unfold FL
  rw [List.mem_map]
  constructor
  · rintro ⟨k, hk, rfl⟩
    obtain ⟨a, b⟩ := List.mem_filter.mp hk
    have := List.mem_range.mp a
    exact ⟨by lia, b⟩
  · rintro ⟨a, b⟩
    exact ⟨x.toNat, List.mem_filter.mpr ⟨List.mem_range.mpr (by lia), by rw [Int.toNat_of_nonneg a.1]; exact b⟩, by lia⟩
theorem FL_nd {t : Nat} : (FL pr t).Nodup := List.pairwise_map.mpr ((List.nodup_range.filter _).imp fun h e => h (by lia))
theorem FL_len {t : Nat} : (FL pr t).length ≤ 5 := by
  unfold FL
  rw [List.length_map]
  exact Nat.le_trans (List.length_filter_le _ _) (by rw [List.length_range]; exact Nat.le_refl _)
theorem FL_le {t : Nat} : (FL pr t).Pairwise (· ≤ ·) := List.pairwise_map.mpr ((List.pairwise_lt_range.filter _).imp fun h => by lia)
theorem FL_0 : FL pr 0 = [] := by
  unfold FL
  rw [show ((List.range 5).filter fun k => Fr (G5 pr) 0 (k : Nat)) = [] from List.filter_eq_nil_iff.mpr fun k hk z => ff z]; rfl
theorem FL_step (O : PrOk pr) {t k : Nat} (hk : k < 5) : (pr k).all (fun j => (FL pr t).contains j) = Fr (G5 pr) (t + 1) (k : Nat) := by
  show _ = (pr ((k : Nat) : Int).toNat).all (Fr (G5 pr) t)
  rw [Int.toNat_natCast]
  have : ∀ l : List Int, (∀ x ∈ l, 0 ≤ x ∧ x < 5) → l.all (fun j => (FL pr t).contains j) = l.all (Fr (G5 pr) t) := fun l => by
    induction l with
    | nil => exact fun _ => rfl
    | cons a r ih =>
      intro h
      rw [List.all_cons, List.all_cons, ih fun x hx => h x (List.mem_cons_of_mem _ hx)]
      congr 1
      rw [Bool.eq_iff_iff, List.contains_iff_mem, FL_mem]
      exact ⟨fun z => z.2, fun z => ⟨h a List.mem_cons_self, z⟩⟩
  exact this _ (O.mem k)
theorem FL_ys {t : Nat} : (List.range 5).filterMap (fun k => if Fr (G5 pr) t (k : Nat) = true then some (AV.int (k : Nat)) else none) = ivs (FL pr t) := by
  unfold FL ivs
  rw [List.map_map]
  exact fm_filter (fun k : Nat => Fr (G5 pr) t (k : Nat)) (fun k : Nat => AV.int (k : Nat)) (List.range 5)
theorem ring_eq (O : PrOk pr) : (!(G5 pr).nodes.all (Fr (G5 pr) 5)) = decide ((FL pr 5).length < 5) := by
  by_cases h : (G5 pr).nodes.all (Fr (G5 pr) 5) = true
  · rw [h]
    have hl : (FL pr 5).length = 5 := by
      unfold FL
      rw [List.filter_eq_self.mpr fun k hk => List.all_eq_true.mp h _ ((G5_mem O).mpr (by have := List.mem_range.mp hk; lia)), List.length_map, List.length_range]
    rw [hl]; rfl
  · rw [show (G5 pr).nodes.all (Fr (G5 pr) 5) = false by simpa using h]
    refine (decide_eq_true ?_).symm
    have hl := FL_len (pr := pr) (t := 5)
    rcases Nat.lt_or_eq_of_le hl with z | z
    · exact z
    · refine absurd (List.all_eq_true.mpr fun x hx => ?_) h
      have hx := (G5_mem O).mp hx
      have e : ((List.range 5).filter fun k => Fr (G5 pr) 5 (k : Nat)).length = (List.range 5).length := by unfold FL at z; rw [List.length_map] at z; rw [z, List.length_range]
      have := List.filter_eq_self.mp (List.filter_sublist.eq_of_length e) x.toNat (List.mem_range.mpr (by lia))
      rw [Int.toNat_of_nonneg hx.1] at this
      exact this
theorem all_free (O : PrOk pr) (h : (!(G5 pr).nodes.all (Fr (G5 pr) 5)) = false) {k : Int} (hk : 0 ≤ k ∧ k < 5) : Fr (G5 pr) 5 k = true := List.all_eq_true.mp (by simpa using h) k ((G5_mem O).mpr hk)
end
noncomputable def sumB (a b c d e : Bool) : Nat := (if a then 1 else 0) + (if b then 2 else 0) + (if c then 4 else 0) + (if d then 8 else 0) + (if e then 16 else 0)
noncomputable def sumF (p : Nat → Bool) : Nat := sumB (p 0) (p 1) (p 2) (p 3) (p 4)
theorem sumB_all : ∀ a b c d e : Bool, sumB a b c d e < 32 ∧ (∀ k : Fin 5, (sumB a b c d e).testBit k = [a, b, c, d, e].getD k false) ∧ ((((List.range 5).filter fun k => [a, b, c, d, e].getD k false).map fun (k : Nat) => (k : Int)).map fun j => (2 : Int) ^ j.toNat).sum = sumB a b c d e := by decide +kernel
theorem sumF_lt (p : Nat → Bool) : sumF p < 32 := (sumB_all _ _ _ _ _).1
theorem sumF_at (p : Nat → Bool) {k : Nat} (hk : k < 5) : [p 0, p 1, p 2, p 3, p 4].getD k false = p k := by
  have : k = 0 ∨ k = 1 ∨ k = 2 ∨ k = 3 ∨ k = 4 := by lia
  rcases this with rfl | rfl | rfl | rfl | rfl <;> rfl
theorem sumF_bit (p : Nat → Bool) {k : Nat} (hk : k < 5) : (sumF p).testBit k = p k := ((sumB_all _ _ _ _ _).2.1 ⟨k, hk⟩).trans (sumF_at p hk)
theorem sumF_sum (p : Nat → Bool) : ((((List.range 5).filter p).map fun (k : Nat) => (k : Int)).map fun j => (2 : Int) ^ j.toNat).sum = sumF p := by
  rw [List.filter_congr fun k hk => (sumF_at p (List.mem_range.mp hk)).symm]
  exact (sumB_all _ _ _ _ _).2.2
noncomputable def bt (n k : Nat) : Bool := decide (Builtin.bitAnd ((n : Int).fdiv (2 ^ k)) 1 = 1)
theorem bt_eq {n k : Nat} (hn : n < 32) (hk : k < 5) : bt n k = n.testBit k := by
  have : ∀ n : Fin 32, ∀ k : Fin 5, bt n k = n.val.testBit k := by decide +kernel
  exact this ⟨n, hn⟩ ⟨k, hk⟩
noncomputable def bz (n s : Nat) : Bool := decide (Builtin.bitAnd (n : Int) (s : Int) = 0)
theorem bz_eq {n s : Nat} (hn : n < 32) (hs : s < 32) : bz n s = (List.range 5).all fun j => !(n.testBit j && s.testBit j) := by
  have : ∀ n : Fin 32, ∀ s : Fin 32, bz n s = (List.range 5).all fun j => !(n.val.testBit j && s.val.testBit j) := by decide +kernel
  exact this ⟨n, hn⟩ ⟨s, hs⟩
theorem bit_ext {n m : Nat} (hn : n < 32) (hm : m < 32) (h : ∀ k, k < 5 → n.testBit k = m.testBit k) : n = m := Nat.eq_of_testBit_eq fun k => by
  by_cases hk : k < 5
  · exact h k hk
  · have : 32 ≤ 2 ^ k := Nat.pow_le_pow_right (n := 2) (by decide) (Nat.le_of_not_lt hk)
    rw [Nat.testBit_lt_two_pow (Nat.lt_of_lt_of_le hn this), Nat.testBit_lt_two_pow (Nat.lt_of_lt_of_le hm this)]
section
variable {d : Nat → Nat}
noncomputable def skp (d : Nat → Nat) (k : Nat) : Nat → Bool := fun i => (tbl (d i)).contains (k : Int) && i != k
noncomputable def sk (d : Nat → Nat) (k : Nat) : Nat := sumF (skp d k)
theorem sk_sum (k : Nat) : ((stk d 5 k).map fun j => (2 : Int) ^ j.toNat).sum = sk d k := sumF_sum (skp d k)
theorem skp_mem {k i : Nat} (hi : i < 5) : skp d k i = true ↔ (i : Int) ∈ stk d 5 k := by
  unfold stk
  rw [List.mem_map]
  constructor
  · intro h
    exact ⟨i, List.mem_filter.mpr ⟨List.mem_range.mpr hi, h⟩, rfl⟩
  · rintro ⟨j, hj, e⟩
    obtain rfl : j = i := by lia
    exact (List.mem_filter.mp hj).2
noncomputable def isKer (d : Nat → Nat) (n : Nat) : Bool := (List.range 5).all fun k => bt n k == bz n (sk d k)
noncomputable def KL (d : Nat → Nat) : List Nat := (List.range 32).filter (isKer d)
theorem isK_iff {n : Nat} (hn : n < 32) : isKer d n = true ↔ ∀ k, k < 5 → n.testBit k = !((stk d 5 k).any fun j => n.testBit j.toNat) := by
  have key : ∀ k, k < 5 → bz n (sk d k) = !((stk d 5 k).any fun j => n.testBit j.toNat) := fun k hk => by
    rw [bz_eq hn (show sk d k < 32 from sumF_lt _)]
    rw [Bool.eq_iff_iff, List.all_eq_true, Bool.not_eq_true', List.any_eq_false]
    constructor
    · intro h x hx
      have hx5 := (stk_ok d).mem k x hx
      have := h x.toNat (List.mem_range.mpr (by lia))
      rw [show (sk d k).testBit x.toNat = true by
        unfold sk
        rw [sumF_bit _ (by lia)]
        exact (skp_mem (by lia)).mpr (by rw [Int.toNat_of_nonneg hx5.1]; exact hx)] at this
      simpa using this
    · intro h j hj
      have hj := List.mem_range.mp hj
      cases e : (sk d k).testBit j
      · simp
      · have e' : skp d k j = true := by rw [← sumF_bit (skp d k) hj]; exact e
        have := h _ ((skp_mem hj).mp e')
        rw [Int.toNat_natCast] at this
        simpa using this
  unfold isKer
  rw [List.all_eq_true]
  constructor
  · intro h k hk
    have := h k (List.mem_range.mpr hk)
    rw [beq_iff_eq, bt_eq hn hk, key k hk] at this
    exact this
  · intro h k hk
    have hk := List.mem_range.mp hk
    rw [beq_iff_eq, bt_eq hn hk, key k hk]
    exact h k hk
theorem isK_sd {n : Nat} (hn : n < 32) (h : isKer d n = true) {k : Int} (hk : 0 ≤ k ∧ k < 5) (hf : Fr (G5 (stk d 5)) 5 k = true) : n.testBit k.toNat = SD (stk d 5) k := by
  have O := stk_ok d
  have h := (isK_iff hn).mp h
  refine ker_sd (G := G5 (stk d 5)) (b := fun k => n.testBit k.toNat) (fun k hk => ?_) (G5_ok O) 5 k ((G5_mem O).mpr hk) hf
  have := (G5_mem O).mp hk
  exact h k.toNat (by lia)
theorem KL_mem {n : Nat} : n ∈ KL d ↔ n < 32 ∧ isKer d n = true := by
  unfold KL
  rw [List.mem_filter, List.mem_range]
theorem KL_one (h : (!(G5 (stk d 5)).nodes.all (Fr (G5 (stk d 5)) 5)) = false) : KL d = [sumF fun k => SD (stk d 5) (k : Nat)] := by
  have O := stk_ok d
  have hN := sumF_lt fun k => SD (stk d 5) (k : Nat)
  have hb : ∀ k, k < 5 → (sumF fun k => SD (stk d 5) (k : Nat)).testBit k = SD (stk d 5) (k : Nat) := fun k hk => sumF_bit _ hk
  have hf : ∀ k : Int, 0 ≤ k ∧ k < 5 → Fr (G5 (stk d 5)) 5 k = true := fun k hk => all_free O h hk
  generalize (sumF fun k => SD (stk d 5) (k : Nat)) = N at *
  have hK : isKer d N = true := (isK_iff hN).mpr fun k hk => by
    rw [hb k hk, SD_rec (hf _ (by lia)), Int.toNat_natCast]
    congr 1
    refine (any_congr fun j hj => ?_).symm
    have := O.mem k j hj
    show N.testBit j.toNat = _
    rw [hb _ (by lia), Int.toNat_of_nonneg this.1]
  have e : ∀ n ∈ List.range 32, isKer d n = (n == N) := fun n hn => by
    have hn := List.mem_range.mp hn
    rw [Bool.eq_iff_iff, beq_iff_eq]
    constructor
    · intro z
      refine bit_ext hn hN fun k hk => ?_
      have := isK_sd hn z (k := (k : Nat)) (by lia) (hf _ (by lia))
      rw [Int.toNat_natCast] at this
      rw [hb k hk, this]
    · rintro rfl; exact hK
  unfold KL
  rw [List.filter_congr e]
  have : ∀ N : Fin 32, (List.range 32).filter (fun n => n == N.val) = [N.val] := by decide +kernel
  exact this ⟨N, hN⟩
end
theorem sum_perm {l m : List Int} (h : l.Perm m) : l.sum = m.sum := by
  induction h with
  | nil => rfl
  | cons a _ ih => rw [List.sum_cons, List.sum_cons, ih]
  | swap a b l => rw [List.sum_cons, List.sum_cons, List.sum_cons, List.sum_cons]; lia
  | trans _ _ h1 h2 => exact h1.trans h2
theorem fl_perm {pr : Nat → List Int} {ks : List Int} (kn : ks.Nodup) (km : ∀ k, k ∈ ks ↔ (0 ≤ k ∧ k < 5) ∧ Fr (G5 pr) 5 k = true) : (FL pr 5).Perm ks :=
  (List.perm_ext_iff_of_nodup FL_nd kn).mpr fun k => by rw [FL_mem, km]
theorem stands_sum {d : Nat → Nat} {ks : List Int} (kn : ks.Nodup) (km : ∀ k, k ∈ ks ↔ (0 ≤ k ∧ k < 5) ∧ Fr (G5 (stk d 5)) 5 k = true) (h : (!(G5 (stk d 5)).nodes.all (Fr (G5 (stk d 5)) 5)) = false) : ((ks.filter (SD (stk d 5))).map fun j => (2 : Int) ^ j.toNat).sum = sumF fun k => SD (stk d 5) (k : Nat) := by
  have e : FL (stk d 5) 5 = (List.range 5).map fun (k : Nat) => (k : Int) := by
    unfold FL
    rw [List.filter_eq_self.mpr fun k hk => all_free (stk_ok d) h (by have := List.mem_range.mp hk; lia)]
  rw [← sumF_sum, ← sum_perm (((fl_perm kn km).filter (SD (stk d 5))).map fun j => (2 : Int) ^ j.toNat), e, List.filter_map]
  rfl
end
section
open PySem PySem.W PyProof.Rows
local macro_rules | `(tactic| walk_at "tb") => `(tactic| repeat (first | with_reducible refine w_listV ?_ | with_reducible refine w_evs1 (fun _ => rfl) ?_ | with_reducible refine w_int ?_ | with_reducible refine w_evs0 ?_ | (refine ⟨rfl, Nat.le_trans (m := 9) (by decide) (show 9 ≤ lim by walk_at "lm"), ?_⟩)))
noncomputable abbrev csL (base : Nat) : List (Str × Nat) := [("struck", base + 7), ("stands", base + 6), ("free", base + 5), ("items", base + 4), ("strikers", base + 3), ("drawn", base + 2), ("globs", base + 1), ("hosts", base)]
noncomputable abbrev usM (vs : List Int) (ta k ru re j tk tu ri ke : Option AV) : List (Option AV) := [some (.lst (ivs vs)), ta, k, ru, re, j, tk, tu, ri, ke]
structure Cl (H0 H : Hp) (b : Nat) (v : List (Option AV)) : Prop where
  at_ : ∀ i x, v[i]? = some x → H (b + i) = some (.cell x)
  s : SubH H0 H
  z : ∀ a, b ≤ a → H0 a = none
theorem Cl.set {H0 H : Hp} {b : Nat} {v : List (Option AV)} (h : Cl H0 H b v) {i : Nat} {x : Option AV} : Cl H0 (upd H (b + i) (.cell x)) b (v.set i x) := by
  refine ⟨fun j y e => ?_, up_sub h.s (h.z _ (Nat.le_add_right _ _)), h.z⟩
  by_cases e' : i = j
  · subst e'
    have hl : i < v.length := by have := (List.getElem?_eq_some_iff.mp e).1; rwa [List.length_set] at this
    rw [List.getElem?_set_self hl] at e
    obtain rfl := smj e
    exact upd_same
  · rw [List.getElem?_set_ne e'] at e
    exact (upd_ne (by lia)).trans (h.at_ j y e)
theorem Cl.new {H0 H : Hp} {b : Nat} {v : List (Option AV)} (h : Cl H0 H b v) {a : Addr} {o : AObj} (ha : H a = none) : Cl H0 (upd H a o) b v :=
  ⟨fun i x e => up_ne' (ne_new (h.at_ i x e) ha) (h.at_ i x e), fun c ob e => up_ne' (ne_new (h.s c ob e) ha) (h.s c ob e), h.z⟩
noncomputable abbrev v0 : List (Option AV) := [none, none, none, none, none, none, none, none]
noncomputable def hosV : AV := .lst (hostL.map fun h => .str (tx h))
noncomputable def gloV : AV := .lst (globL.map fun h => .str (tx h))
noncomputable def tblV : AV := .lst (tblL.map fun h => .lst (ivs h))
theorem hosV_eq : AV.lst [.str (Str.ofString "aa.local"), .str (Str.ofString "ab.local"), .str (Str.ofString "bb.local"), .str (Str.ofString "ba.local"), .str (Str.ofString "ca.local")] = hosV := by
  unfold hosV
  rw [show Str.ofString "aa.local" = tx [97, 97, 46, 108, 111, 99, 97, 108] by decide +kernel, show Str.ofString "ab.local" = tx [97, 98, 46, 108, 111, 99, 97, 108] by decide +kernel, show Str.ofString "bb.local" = tx [98, 98, 46, 108, 111, 99, 97, 108] by decide +kernel, show Str.ofString "ba.local" = tx [98, 97, 46, 108, 111, 99, 97, 108] by decide +kernel, show Str.ofString "ca.local" = tx [99, 97, 46, 108, 111, 99, 97, 108] by decide +kernel]
  rfl
theorem gloV_eq : AV.lst [.str (Str.ofString "a?.local"), .str (Str.ofString "?a.local"), .str (Str.ofString "b*"), .str (Str.ofString "*b.local"), .str (Str.ofString "c*"), .str (Str.ofString "aa.local"), .str (Str.ofString "*c*"), .str (Str.ofString "ba*"), .str (Str.ofString "*x*")] = gloV := by
  unfold gloV
  rw [show Str.ofString "a?.local" = tx [97, 63, 46, 108, 111, 99, 97, 108] by decide +kernel, show Str.ofString "?a.local" = tx [63, 97, 46, 108, 111, 99, 97, 108] by decide +kernel, show Str.ofString "b*" = tx [98, 42] by decide +kernel, show Str.ofString "*b.local" = tx [42, 98, 46, 108, 111, 99, 97, 108] by decide +kernel, show Str.ofString "c*" = tx [99, 42] by decide +kernel, show Str.ofString "aa.local" = tx [97, 97, 46, 108, 111, 99, 97, 108] by decide +kernel, show Str.ofString "*c*" = tx [42, 99, 42] by decide +kernel, show Str.ofString "ba*" = tx [98, 97, 42] by decide +kernel, show Str.ofString "*x*" = tx [42, 120, 42] by decide +kernel]
  rfl
theorem tblV_eq : AV.lst [.lst [.int 0, .int 1], .lst [.int 0, .int 3, .int 4], .lst [.int 2, .int 3], .lst [.int 1, .int 2], .lst [.int 4], .lst [.int 0], .lst [.int 0, .int 1, .int 2, .int 3, .int 4], .lst [.int 3], .lst []] = tblV := rfl
noncomputable def RL (vs : List Int) : List KV := (List.range 5).map fun k => (hosT k, gloT (dr vs k))
theorem hos_at {k : Nat} (h : k < 5) : (hostL.map fun h => AV.str (tx h))[k]? = some (.str (tx (hosT k))) := by
  rw [List.getElem?_map, List.getElem?_eq_getElem (show k < hostL.length from h)]
  unfold hosT
  rw [List.getD_eq_getElem?_getD, List.getElem?_eq_getElem (show k < hostL.length from h)]; rfl
theorem glo_at {k : Nat} (h : k < 9) : (globL.map fun h => AV.str (tx h))[k]? = some (.str (tx (gloT k))) := by
  rw [List.getElem?_map, List.getElem?_eq_getElem (show k < globL.length from h)]
  unfold gloT
  rw [List.getD_eq_getElem?_getD, List.getElem?_eq_getElem (show k < globL.length from h)]; rfl
theorem tbl_at {k : Nat} (h : k < 9) : (tblL.map fun h => AV.lst (ivs h))[k]? = some (.lst (ivs (tbl k))) := by
  rw [List.getElem?_map, List.getElem?_eq_getElem (show k < tblL.length from h)]
  unfold tbl
  rw [List.getD_eq_getElem?_getD, List.getElem?_eq_getElem (show k < tblL.length from h)]; rfl
theorem RL_ok (vs : List Int) : ∀ r ∈ RL vs, GKV r := fun r hr => by
  obtain ⟨k, hk, rfl⟩ := List.mem_map.mp hr
  have hk := List.mem_range.mp hk
  obtain ⟨h1, h2⟩ := hos_ok hk
  obtain ⟨-, g1, g2, g3, -⟩ := glo_ok (drw_at vs hk).2
  exact ⟨fun z => (by have h1 : (hosT k).length = 8 := h1; have z : hosT k = [] := z; rw [z] at h1; exact (nomatch h1)), h2, by show (hosT k).length ≤ 20; lia, g2, g3, by show (gloT _).length ≤ 20; lia⟩
theorem RL_inv (vs : List Int) : KInv (RL vs) (glueL [44, 32] ((RL vs).map elV)) [] [] := by
  obtain ⟨r, t, e⟩ := List.exists_cons_of_ne_nil (show RL vs ≠ [] from fun z => nomatch (congrArg List.length z : (List.map _ (List.range 5)).length = 0))
  rw [e]
  exact .inl ⟨false, r, t, by rw [glue_enc2]; rfl, rfl, rfl⟩
theorem RL_len (vs : List Int) : (glueL [44, 32] ((RL vs).map elV)).length < 400 := by
  have h := glueL_len [44, 32] 43 ((RL vs).map elV) fun p hp => by
    obtain ⟨r, hr, rfl⟩ := List.mem_map.mp hp
    have := RL_ok vs r hr
    exact elV_len ⟨this.kl, this.vl⟩
  rw [List.length_map, show (RL vs).length = 5 from rfl] at h
  exact Nat.lt_of_le_of_lt h (by decide)
theorem eqs_rows {n : Nat} : ∀ l : List KV, EqVs (n + 2) (l.map rowV) (l.map rowV) true
  | [] => v_nil
  | r :: l => (show (((decide (tx r.1 = tx r.1) && (decide (tx r.2 = tx r.2) && true)) && true) && true) = true by simp) ▸ v_cons (v_lst (v_cons (v_tup (v_cons v_str (v_cons v_str v_nil))) v_nil)) (eqs_rows l)
structure Lz (H H0 : Hp) (as : List Addr) : Prop where
  at_ : ∀ a ∈ as, H a = some (.list [])
  nd : as.Nodup
  z : ∀ a ∈ as, H0 a = none
structure Ss (H H0 : Hp) (S : Addr) (as : List Addr) (R : Nat → List Int) : Prop where
  cS : H S = some (.list (as.map rf))
  at_ : ∀ j a, as[j]? = some a → H a = some (.list (ivs (R j)))
  nd : as.Nodup
  nS : S ∉ as
  z : ∀ a ∈ as, H0 a = none
  zS : H0 S = none
theorem Lz.new {H H0 : Hp} {as : List Addr} {N : Addr} (h : Lz H H0 as) (hN : H N = none) (h0 : H0 N = none) : Lz (upd H N (.list [])) H0 (as ++ [N]) := by
  refine ⟨fun a ha => ?_, List.nodup_append.mpr ⟨h.nd, List.nodup_cons.mpr ⟨List.not_mem_nil, .nil⟩, fun a ha b hb => ?_⟩, fun a ha => ?_⟩
  · rcases List.mem_append.mp ha with ha | ha
    · exact up_ne' (ne_new (h.at_ a ha) hN) (h.at_ a ha)
    · rw [List.mem_singleton.mp ha]; exact upd_same
  · rw [List.mem_singleton.mp hb]
    exact ne_new (h.at_ a ha) hN
  · rcases List.mem_append.mp ha with ha | ha
    · exact h.z a ha
    · rw [List.mem_singleton.mp ha]; exact h0
theorem Lz.fin {H H0 : Hp} {as : List Addr} {S : Addr} (h : Lz H H0 as) (hS : H S = none) (h0 : H0 S = none) : Ss (upd H S (.list (as.map rf))) H0 S as fun _ => [] :=
  ⟨upd_same, fun j a e => up_ne' (ne_new (h.at_ a (List.mem_of_getElem? e)) hS) (h.at_ a (List.mem_of_getElem? e)), h.nd, fun z => ne_new (h.at_ S z) hS rfl, h.z, h0⟩
theorem Ss.cell {H H0 : Hp} {S c : Addr} {as : List Addr} {R : Nat → List Int} {v x : Option AV} (h : Ss H H0 S as R) (hc : H c = some (.cell v)) : Ss (upd H c (.cell x)) H0 S as R :=
  ⟨up_ne' (ne_of h.cS hc rfl) h.cS, fun j a e => up_ne' (ne_of (h.at_ j a e) hc rfl) (h.at_ j a e), h.nd, h.nS, h.z, h.zS⟩
inductive Q1 (H0 : Hp) (base : Nat) (S : Addr) (as : List Addr) (vs : List Int) (k : Nat) (H : Hp) : Prop
  | mk (it : Option AV) (C : Cl H0 H base [some hosV, some gloV, some (.lst (ivs (drw vs))), some (rf S), it, none, none, none]) (Z : Ss H H0 S as (stk (dr vs) k)) : Q1 H0 base S as vs k H
inductive Q2 (H0 : Hp) (base : Nat) (S : Addr) (as : List Addr) (vs : List Int) (k i : Nat) (H : Hp) : Prop
  | mk (it : Option AV) (C : Cl H0 H base [some hosV, some gloV, some (.lst (ivs (drw vs))), some (rf S), it, none, none, none]) (Z : Ss H H0 S as fun j => stk (dr vs) k j ++ if (((tbl (dr vs k)).take i).contains (j : Int) && k != j) = true then [(k : Int)] else []) : Q2 H0 base S as vs k i H
theorem Ss.cong {H H0 : Hp} {S : Addr} {as : List Addr} {R R' : Nat → List Int} (h : Ss H H0 S as R) (e : ∀ j, R j = R' j) : Ss H H0 S as R' := funext e ▸ h
theorem Cl.lst {H0 H : Hp} {b : Nat} {v : List (Option AV)} (h : Cl H0 H b v) {a : Addr} {o : AObj} {l : List AV} (ha : H a = some (.list l)) (h0 : H0 a = none) : Cl H0 (upd H a o) b v :=
  ⟨fun i x e => up_ne' (ne_of (h.at_ i x e) ha rfl) (h.at_ i x e), up_sub h.s h0, h.z⟩
theorem Ss.put {H H0 : Hp} {S a : Addr} {as : List Addr} {R : Nat → List Int} {m : Nat} {l : List Int} (h : Ss H H0 S as R) (ha : as[m]? = some a) : Ss (upd H a (.list (ivs l))) H0 S as fun j => if j = m then l else R j := by
  refine ⟨up_ne' (fun z => h.nS (z ▸ List.mem_of_getElem? ha)) h.cS, fun j b e => ?_, h.nd, h.nS, h.z, h.zS⟩
  by_cases hj : j = m
  · subst hj
    obtain rfl := smj (ha.symm.trans e)
    rw [if_pos rfl]
    exact upd_same
  · rw [if_neg hj]
    refine up_ne' (fun z => ?_) (h.at_ j b e)
    have h1 := (List.getElem?_eq_some_iff.mp e).1
    exact hj ((List.getElem?_inj h1 h.nd).mp (e.trans (by rw [ha, z])))
theorem tk_ys {d : Nat} (hd : d < 9) : (List.range 5).filterMap (fun j => if tkn d j = true then some (AV.int (j : Nat)) else none) = ivs (tbl d) := by
  rw [fm_filter (tkn d) (fun j : Nat => AV.int (j : Nat)) (List.range 5), taken_tab hd, List.map_map]
  unfold ivs
  refine List.map_congr_left fun x hx => ?_
  have := (tbl_ok hd).2.1 x hx
  show AV.int ((x.toNat : Nat) : Int) = AV.int x
  rw [Int.toNat_of_nonneg this.1]
section
variable {H : Hp} {n : Nat}
noncomputable abbrev FL5 (n base : Nat) : FS := ⟨TT, n + 5, (fnOf 253).scope, csL base, (fnOf 253).lam⟩
theorem law2_of (vs : List Int) (hv : vs.length ≤ 63) (hT : ∀ base H2 S as it rv, as.length = 5 → Cl H H2 base [some hosV, some gloV, some (.lst (ivs (drw vs))), some (rf S), it, none, none, none] → Ss H2 H S as (stk (dr vs) 5) →
    Wx (FL5 n base) ((fnOf 253).body.drop 9) (V (FL5 n base) H2 (usM vs (some tblV) none (some rv) (some rv) none none none none none)) fun fl s' => ∃ H', SubH H' s'.H ∧ retOf fl = .bool true) : Body TT (n + 5) (fnOf 253) [("script", .lst (ivs vs))] H fun v _ => v = .bool true := by
  with_reducible refine body_c (cs := csL) (us := usM vs none none none none none none none none none) (fun _ => by kernel_rfl) (by decide +kernel) (by kernel_rfl) fun base H1 hs hb hc => ?_
  have C : Cl H H1 base v0 := by
    refine ⟨fun i x e => ?_, hs, hb⟩
    match i, e with
    | 0, e => obtain rfl := smj e; exact hc 0 "hosts" (by kernel_rfl)
    | 1, e => obtain rfl := smj e; exact hc 1 "globs" (by kernel_rfl)
    | 2, e => obtain rfl := smj e; exact hc 2 "drawn" (by kernel_rfl)
    | 3, e => obtain rfl := smj e; exact hc 3 "strikers" (by kernel_rfl)
    | 4, e => obtain rfl := smj e; exact hc 4 "items" (by kernel_rfl)
    | 5, e => obtain rfl := smj e; exact hc 5 "free" (by kernel_rfl)
    | 6, e => obtain rfl := smj e; exact hc 6 "stands" (by kernel_rfl)
    | 7, e => obtain rfl := smj e; exact hc 7 "struck" (by kernel_rfl)
    | n + 8, e => exact nomatch e
  clear hc hb hs
  conv => arg 2; whnf
  have c0 : H1 base = some (.cell none) := C.at_ 0 _ rfl
  walk_at "wv"
  refine w_listV ?_
  walk_at "wv"
  refine ⟨rfl, show 5 ≤ lim by walk_at "lm", ?_⟩
  rw [hosV_eq]
  walk_at "wv"
  have C2 : Cl H (upd H1 base (.cell (some hosV))) base _ := C.set (i := 0) (x := some hosV)
  generalize upd H1 base (.cell (some hosV)) = H2 at *
  clear C c0
  have c1 : H2 (base + 1) = some (.cell none) := C2.at_ 1 _ rfl
  walk_at "wv"
  refine w_listV ?_
  walk_at "wv"
  refine ⟨rfl, show 9 ≤ lim by walk_at "lm", ?_⟩
  rw [gloV_eq]
  walk_at "wv"
  have C3 := C2.set (i := 1) (x := some gloV)
  generalize upd H2 (base + 1) (.cell (some gloV)) = H3 at *
  clear C2 c1
  refine w_listV ?_
  walk_at "tb"
  rw [tblV_eq]
  have c2 : H3 (base + 2) = some (.cell none) := C3.at_ 2 _ rfl
  walk_at "wv"
  have hivs : (ivs vs).length = vs.length := ivs_len
  have hdl : (([0, 3, 7, 8, 8] : List Int).drop vs.length).length ≤ 5 := by rw [List.length_drop]; exact Nat.sub_le _ _
  have htl : (vs.take 5).length ≤ 5 := List.length_take_le ..
  refine compM (z := ".0") (cs := fun _ => []) (vs.take 5 ++ ([0, 3, 7, 8, 8] : List Int).drop vs.length) .int (fun v => .int (v.fmod 9)) (ivs (drw vs)) (by unfold drw ivs; rw [List.map_map]; rfl) rfl (by kernel_rfl) (by decide +kernel) rfl (fun _ => rfl) (by rw [List.length_append]; walk_at "lm") (i_plain (fun _ _ => rfl) ?_)
  walk_at "wv"
  refine f_slT (b := 5) (.lst _) (by rw [hivs]; walk_at "lm") ?_
  walk_at "wv"
  refine w_listV ?_
  walk_at "wv"
  refine ⟨rfl, show 5 ≤ lim by walk_at "lm", ?_⟩
  walk_at "wv"
  refine bu_len (.li (.lst _)) (by rw [hivs]; walk_at "lm") ?_
  walk_at "wv"
  have eL : (ivs vs).take 5 ++ List.drop (ivs vs).length [AV.int 0, AV.int 3, AV.int 7, AV.int 8, AV.int 8] = (vs.take 5 ++ ([0, 3, 7, 8, 8] : List Int).drop vs.length).map .int := by
    unfold ivs
    rw [List.map_append, List.map_take, List.map_drop, List.length_map]
    rfl
  refine f_slD (.lst _) (show 5 ≤ lim by walk_at "lm") ?_
  refine f_addL (.lst _) (.lst _) (by rw [← List.length_append, eL, List.length_map, List.length_append]; walk_at "lm") ?_
  refine e_sr sr_lst ⟨eL, fun _ => trivial, fun b2 v hv => ?_, ?_⟩
  · walk_at "wv"
    exact f_modI (by decide) ⟨rfl, rfl⟩
  walk_at "wv"
  have C4 := C3.set (i := 2) (x := some (.lst (ivs (drw vs))))
  generalize upd H3 (base + 2) (.cell (some (.lst (ivs (drw vs))))) = H4 at *
  clear C3 c2 eL htl hdl hivs
  have c0 : H4 base = some (.cell (some hosV)) := C4.at_ 0 _ rfl
  have c1 : H4 (base + 1) = some (.cell (some gloV)) := C4.at_ 1 _ rfl
  have c2 : H4 (base + 2) = some (.cell (some (.lst (ivs (drw vs))))) := C4.at_ 2 _ rfl
  refine compM (z := ".0") (cs := fun _ => [("hosts", base), ("globs", base + 1), ("drawn", base + 2)]) (List.range 5) (fun k => .int (k : Nat)) (fun k => rowV (hosT k, gloT (dr vs k))) ((RL vs).map rowV) (by unfold RL; rw [List.map_map]; rfl) rfl (by kernel_rfl) (by decide +kernel) rfl (fun _ => by kernel_rfl) (show 5 < lim by walk_at "lm") (i_plain (fun _ _ => rfl) ?_)
  walk_at "wv"
  refine bu_range (e_sr (sr_rng (n := 5) (by walk_at "lm")) ⟨rfl, fun _ => trivial, fun b2 k hk => ?_, ?_⟩)
  · have hk := List.mem_range.mp hk
    obtain ⟨hd, hd9⟩ := drw_at vs hk
    refine w_listV ?_
    walk_at "wv"
    refine f_list (k := k) (.lst _) (seq_nat (by rw [List.length_map]; exact hk) (by rw [List.length_map]; show 5 ≤ lim; walk_at "lm")) (hos_at hk) ?_
    walk_at "wv"
    refine f_list (k := k) (.lst _) (seq_nat (by rw [ivs_len, drw_len]; exact hk) (by rw [ivs_len, drw_len]; walk_at "lm")) (by unfold ivs; rw [List.getElem?_map, hd]; rfl) ?_
    refine f_list (k := dr vs k) (.lst _) (seq_nat (by rw [List.length_map]; exact hd9) (by rw [List.length_map]; show 9 ≤ lim; walk_at "lm")) (glo_at hd9) ?_
    walk_at "wv"
    refine ⟨show 2 ≤ lim by walk_at "lm", ?_⟩
    walk_at "wv"
    exact ⟨rfl, show 1 ≤ lim by walk_at "lm", rfl, rfl⟩
  walk_at "wv"
  have hg := RL_ok vs
  have hl5 : (RL vs).length = 5 := by unfold RL; rw [List.length_map, List.length_range]
  refine w_listV ?_
  walk_at "wv"
  refine ac_V (binds := [("lists", .lst ((RL vs).map rowV))]) lib94 (by kernel_rfl) (joinV_ok (RL vs) (by lia) (fun r hr => ⟨(hg r hr).kl, (hg r hr).vl, List.all_eq_true.mpr fun c hc => by simpa using ((hg r hr).ve c hc).2.symm⟩) ?_)
  walk_at "wv"
  refine ⟨rfl, show 1 ≤ lim by walk_at "lm", ?_⟩
  refine ac_V (binds := [("header_values", .lst [.str (tx (glueL [44, 32] ((RL vs).map elV)))])]) lib77 (by kernel_rfl) (splitV_ok hg (RL_inv vs) (RL_len vs) (by lia) ?_)
  walk_at "wv"
  refine e_cmp (e_ne (v_lst (eqs_rows (n := 77) _))) ?_
  walk_at "wv"
  have L0 : Lz H4 H [] := ⟨nofun, .nil, nofun⟩
  refine w_list ?_
  walk_at "wv"
  refine v_list0 fun a0 z0 => ?_
  have L1 := L0.new z0 (sub_no C4.s z0)
  have D1 := C4.new (o := .list []) z0
  show WEs _ _ (V _ (upd H4 a0 (.list [])) _) _
  generalize upd H4 a0 (.list []) = H5 at *
  clear L0 C4 c0 c1 c2 z0
  walk_at "wv"
  refine v_list0 fun a1 z1 => ?_
  have L2 := L1.new z1 (sub_no D1.s z1)
  have D2 := D1.new (o := .list []) z1
  show WEs _ _ (V _ (upd H5 a1 (.list [])) _) _
  generalize upd H5 a1 (.list []) = H6 at *
  clear L1 D1 z1
  walk_at "wv"
  refine v_list0 fun a2 z2 => ?_
  have L3 := L2.new z2 (sub_no D2.s z2)
  have D3 := D2.new (o := .list []) z2
  show WEs _ _ (V _ (upd H6 a2 (.list [])) _) _
  generalize upd H6 a2 (.list []) = H7 at *
  clear L2 D2 z2
  walk_at "wv"
  refine v_list0 fun a3 z3 => ?_
  have L4 := L3.new z3 (sub_no D3.s z3)
  have D4 := D3.new (o := .list []) z3
  show WEs _ _ (V _ (upd H7 a3 (.list [])) _) _
  generalize upd H7 a3 (.list []) = H8 at *
  clear L3 D3 z3
  walk_at "wv"
  refine v_list0 fun a4 z4 => ?_
  have L5 := L4.new z4 (sub_no D4.s z4)
  have D5 := D4.new (o := .list []) z4
  show WEs _ _ (V _ (upd H8 a4 (.list [])) _) _
  generalize upd H8 a4 (.list []) = H9 at *
  clear L4 D4 z4
  walk_at "wv"
  refine ⟨show 5 ≤ lim by walk_at "lm", fun S zS => ?_⟩
  have Z := L5.fin zS (sub_no D5.s zS)
  have D6 := D5.new (o := .list ([a0, a1, a2, a3, a4].map rf)) zS
  show Wal _ _ _ (V _ (upd H9 S (.list ([a0, a1, a2, a3, a4].map rf))) _) _
  have Z : Ss (upd H9 S (.list ([a0, a1, a2, a3, a4].map rf))) H S [a0, a1, a2, a3, a4] (stk (dr vs) 0) := Z
  have hal : [a0, a1, a2, a3, a4].length = 5 := rfl
  generalize upd H9 S (.list ([a0, a1, a2, a3, a4].map rf)) = H10 at *
  generalize [a0, a1, a2, a3, a4] = as at *
  clear L5 D5 zS
  have c3 : H10 (base + 3) = some (.cell none) := D6.at_ 3 _ rfl
  walk_at "wv"
  have D7 : Cl H (upd H10 (base + 3) (.cell (some (rf S)))) base [some hosV, some gloV, some (.lst (ivs (drw vs))), some (rf S), none, none, none, none] := D6.set (i := 3)
  have Z := Z.cell c3 (x := some (rf S))
  generalize upd H10 (base + 3) (.cell (some (rf S))) = H11 at *
  clear D6 c3
  clear hl5 hg
  generalize hrv : (AV.lst ((RL vs).map rowV)) = rv at *
  refine w1_cut (fun _ : Unit => usM vs (some tblV) none (some rv) (some rv) none none none none none) (fun H2 _ => Q1 H base S as vs 5 H2) ?_ ?_
  · refine x_forC (by decide +kernel) (i_plain (fun _ _ => rfl) ?_)
    walk_at "wv"
    refine bu_range (e_sr (sr_rng (n := 5) (by walk_at "lm")) ⟨H11, usM vs (some tblV) none (some rv) (some rv) none none none none none, rfl, Q1 H base S as vs, ⟨none, D7, Z⟩, fun _ _ _ _ => trivial, ?_, fun H2 h => ⟨H2, _, (), rfl, rfl, h⟩⟩)
    clear D7 Z
    rintro k v H12 hv0 ⟨it, C, Z⟩
    obtain ⟨hk, rfl⟩ := nats_get hv0
    obtain ⟨hd, hd9⟩ := drw_at vs hk
    obtain ⟨g1, g2, -, -, g5⟩ := glo_ok hd9
    have ek : (((RL vs).map rowV))[k]? = some (rowV (hosT k, gloT (dr vs k))) := by
      unfold RL
      rw [List.getElem?_map, List.getElem?_map, List.getElem?_range hk]; rfl
    walk_at "wv"
    refine f_list (k := k) (hrv ▸ .lst _) (seq_nat (by rw [List.length_map]; exact hk) (by rw [List.length_map]; show 5 ≤ lim; walk_at "lm")) ek ?_
    walk_at "wv"
    refine f_list (k := 0) (.lst _) rfl rfl ?_
    walk_at "wv"
    refine ⟨_, u_tup (k := 1) rfl rfl, ?_⟩
    walk_at "wv"
    refine ac_V (binds := [("pat", .str (tx (gloT (dr vs k)))), ("STAR", .none), ("QUESTION_MARK", .str (tx [63]))]) lib118 (by kernel_rfl) (transG_ok _ g1 (by lia) ?_)
    have c4 : H12 (base + 4) = some (.cell it) := C.at_ 4 _ rfl
    walk_at "wv"
    have D : Cl H (upd H12 (base + 4) (.cell (some (.lst (((gloT (dr vs k)).foldl trS []).map itV))))) base [some hosV, some gloV, some (.lst (ivs (drw vs))), some (rf S), some (.lst (((gloT (dr vs k)).foldl trS []).map itV)), none, none, none] := C.set (i := 4)
    have Z := Z.cell c4 (x := some (.lst (((gloT (dr vs k)).foldl trS []).map itV)))
    generalize upd H12 (base + 4) (.cell (some (.lst (((gloT (dr vs k)).foldl trS []).map itV)))) = H13 at *
    clear C c4
    have c0 : H13 base = some (.cell (some hosV)) := D.at_ 0 _ rfl
    have c2 : H13 (base + 2) = some (.cell (some (.lst (ivs (drw vs))))) := D.at_ 2 _ rfl
    have c3 : H13 (base + 3) = some (.cell (some (rf S))) := D.at_ 3 _ rfl
    have c4 : H13 (base + 4) = some (.cell (some (.lst (((gloT (dr vs k)).foldl trS []).map itV)))) := D.at_ 4 _ rfl
    refine comp2 (z := ".0") (cs := fun _ => [("items", base + 4), ("hosts", base)]) (List.range 5) (fun j => .int (j : Nat)) (fun j => if tkn (dr vs k) j = true then some (.int (j : Nat)) else none) (ivs (tbl (dr vs k))) (tk_ys hd9) rfl (by kernel_rfl) (by decide +kernel) rfl (fun _ => by kernel_rfl) (i_plain (fun _ _ => rfl) ?_)
    walk_at "wv"
    refine bu_range (e_sr (sr_rng (n := 5) (by walk_at "lm")) ⟨rfl, fun _ => trivial, show 5 < lim by walk_at "lm", fun b2 j hj => ?_, ?_⟩)
    · have hj := List.mem_range.mp hj
      walk_at "wv"
      refine f_list (k := j) (.lst _) (seq_nat (by rw [List.length_map]; exact hj) (by rw [List.length_map]; show 5 ≤ lim; walk_at "lm")) (hos_at hj) ?_
      walk_at "wv"
      refine ac_V (binds := [("items", .lst (((gloT (dr vs k)).foldl trS []).map itV)), ("host", .str (tx (hosT j)))]) lib243 (by kernel_rfl) (takes_ok _ _ (by have := (hos_ok hj).1; lia) (by lia) ?_)
      walk_at "wv"
      refine ⟨fun e => ?_, fun e => ⟨rfl, br_f rfl (if_neg fun z => ff (e.symm.trans z))⟩⟩
      walk_at "wv"
      refine ⟨rfl, br_t rfl ?_⟩
      walk_at "wv"
      exact ⟨rfl, if_pos e⟩
    walk_at "wv"
    refine f_list (k := k) (.lst _) (seq_nat (by rw [ivs_len, drw_len]; exact hk) (by rw [ivs_len, drw_len]; walk_at "lm")) (by unfold ivs; rw [List.getElem?_map, hd]; rfl) ?_
    refine f_list (k := dr vs k) (.lst _) (seq_nat (by rw [List.length_map]; exact hd9) (by rw [List.length_map]; show 9 ≤ lim; walk_at "lm")) (tbl_at hd9) ?_
    refine f_neL ?_
    refine br_f (by simp) ?_
    walk_at "wv"
    obtain ⟨t1, t2, t3⟩ := tbl_ok hd9
    clear hd g1 g2 g5 ek c0 c2 c4
    refine x_forC (by decide +kernel) (i_plain (fun _ _ => rfl) ?_)
    walk_at "wv"
    refine e_sr sr_lst ⟨H13, usM vs (some tblV) (some (.int (k : Nat))) (some rv) (some rv) none (some (.lst (ivs (tbl (dr vs k))))) none none none, rfl, Q2 H base S as vs k, ⟨_, D, Z.cong fun j => (List.append_nil _).symm⟩, fun _ _ _ _ => trivial, ?_, ?_⟩
    · clear D Z
      rintro i v H14 hv0 ⟨it, D, Z⟩
      obtain ⟨j, hj, rfl⟩ := ivs_get hv0
      have hj5 := t2 j (List.mem_of_getElem? hj)
      have c3 : H14 (base + 3) = some (.cell (some (rf S))) := D.at_ 3 _ rfl
      have cS := Z.cS
      walk_at "wv"
      have hjn : (j.toNat : Int) = j := Int.toNat_of_nonneg hj5.1
      have hnt : j ∉ (tbl (dr vs k)).take i := fun z => by
        obtain ⟨i', hi'⟩ := List.getElem?_of_mem z
        have hl : i' < i := by have := (List.getElem?_eq_some_iff.mp hi').1; rw [List.length_take] at this; lia
        rw [List.getElem?_take_of_lt hl] at hi'
        have := (List.getElem?_inj (List.getElem?_eq_some_iff.mp hi').1 t1).mp (hi'.trans hj.symm)
        lia
      have htk : ∀ j' : Nat, ((tbl (dr vs k)).take (i + 1)).contains (j' : Int) = (((tbl (dr vs k)).take i).contains (j' : Int) || (j' : Int) == j) := fun j' => by
        rw [take_succ hj, Bool.eq_iff_iff]
        simp
      by_cases e : j = k
      · refine br_f (by rw [decide_eq_true e]; rfl) ?_
        walk_at "wv"
        refine ⟨_, _, rfl, rfl, it, D, Z.cong fun j' => ?_⟩
        rw [htk]
        by_cases e' : (j' : Int) = j
        · obtain rfl : k = j' := by lia
          simp
        · rw [show ((j' : Int) == j) = false by simpa using e', Bool.or_false]
      · refine br_t (by rw [decide_eq_false e]; rfl) ?_
        obtain ⟨a, ha⟩ : ∃ a, as[j.toNat]? = some a := ⟨_, List.getElem?_eq_getElem (by lia)⟩
        have ca := Z.at_ _ _ ha
        walk_at "wv"
        refine f_list (k := j.toNat) (v := rf a) (.ref cS) (by rw [List.length_map, hal, ← hjn, Int.toNat_natCast]; exact seq_nat (by lia) (by walk_at "lm")) (by rw [List.getElem?_map, ha]; rfl) ?_
        walk_at "wv"
        refine v_append ca ?_ ?_
        · rw [ivs_len, List.length_append]
          have := stk_len (dr vs) k j.toNat
          split <;> (unfold lim; simp; lia)
        walk_at "wv"
        refine ⟨_, _, rfl, rfl, it, D.lst ca (Z.z a (List.mem_of_getElem? ha)), ?_⟩
        have e1 : ∀ (l : List Int), ivs l ++ [AV.int (k : Nat)] = ivs (l ++ [(k : Int)]) := fun l => by unfold ivs; rw [List.map_append]; rfl
        rw [e1]
        refine (Z.put ha).cong fun j' => ?_
        rw [htk]
        by_cases e' : (j' : Int) = j
        · obtain rfl : j' = j.toNat := by lia
          have h2 : ((tbl (dr vs k)).take i).contains j = false := by simpa using hnt
          have h3 : (k != j.toNat) = true := by rw [bne_iff_ne]; lia
          rw [if_pos rfl, hjn, h2, h3]
          simp
        · rw [if_neg (by lia), show ((j' : Int) == j) = false by simpa using e', Bool.or_false]
    · rintro H14 ⟨it, D, Z⟩
      walk_at "wv"
      refine ⟨_, _, rfl, rfl, it, D, Z.cong fun j => ?_⟩
      rw [ivs_len, List.take_length, stk_succ]
  clear D7 Z
  rintro H12 - ⟨it, C, Z⟩
  exact hT base H12 S as it rv hal C Z
end
end
section
open PySem PySem.W PyProof.Rows
theorem Cl.sub {H0 H H' : Hp} {b : Nat} {v : List (Option AV)} (h : Cl H0 H b v) (s : SubH H H') : Cl H0 H' b v := ⟨fun i x e => s _ _ (h.at_ i x e), fun a o e => s _ _ (h.s a o e), h.z⟩
theorem Cl.dl {H0 H : Hp} {b : Nat} {v : List (Option AV)} (h : Cl H0 H b v) {a : Addr} {l : List AV} (ha : H a = some (.list l)) (h0 : H0 a = none) : Cl H0 (Mine.dl H a) b v :=
  ⟨fun i x e => (if_neg (ne_of (h.at_ i x e) ha rfl)).trans (h.at_ i x e), dl_sub h.s h0, h.z⟩
noncomputable def mix (as : List Addr) (R : Nat → List Int) (i : Nat) : List AV := ((List.range i).map fun j => .lst (ivs (R j))) ++ (as.drop i).map rf
structure Fs (H H0 : Hp) (S : Addr) (as : List Addr) (R : Nat → List Int) (i : Nat) : Prop where
  cS : H S = some (.list (mix as R i))
  at_ : ∀ j a, i ≤ j → as[j]? = some a → H a = some (.list (ivs (R j)))
  nd : as.Nodup
  nS : S ∉ as
  z : ∀ a ∈ as, H0 a = none
  zS : H0 S = none
theorem Fs.step {H H0 : Hp} {S : Addr} {as : List Addr} {R : Nat → List Int} {i b : Nat} {v : List (Option AV)} {fs : FS} {us : List (Option AV)} {ss : List Stmt} {K : AFlow → St → Prop} (h : Fs H H0 S as R i) (c : Cl H0 H b v) (hi : i < as.length)
    (q : ∀ H', Fs H' H0 S as R (i + 1) → Cl H0 H' b v → Wx fs ss (V fs H' us) K) : Wx fs ss (V fs H us) K := by
  have ha : as[i]? = some as[i] := List.getElem?_eq_getElem hi
  generalize as[i] = a at ha
  have ca := h.at_ i a (Nat.le_refl _) ha
  have hm := List.mem_of_getElem? ha
  have n : S ≠ a := fun z => h.nS (z ▸ hm)
  have hd : as.drop i = a :: as.drop (i + 1) := by
    rw [List.drop_eq_getElem_cons hi]
    rw [List.getElem?_eq_getElem hi] at ha
    rw [smj ha]
  have hl : ((List.range i).map fun j => AV.lst (ivs (R j))).length = i := by rw [List.length_map, List.length_range]
  have e1 : (mix as R i)[i]? = some (rf a) := by
    unfold mix
    rw [List.getElem?_append_right (by rw [hl]; exact Nat.le_refl _), hl, Nat.sub_self, hd]; rfl
  have e2 : (mix as R i).set i (.lst (ivs (R i))) = mix as R (i + 1) := by
    unfold mix
    rw [List.set_append_right _ _ (by rw [hl]; exact Nat.le_refl _), hl, Nat.sub_self, hd, List.range_succ, List.map_append, List.append_assoc]; rfl
  have c1 := c.dl ca (h.z a hm)
  have hS : Mine.dl H a S = some (.list (mix as R i)) := (if_neg n).trans h.cS
  refine x_frzE i h.cS e1 ca n (q _ ⟨by rw [e2]; exact upd_same, fun j a' hj e => ?_, h.nd, h.nS, h.z, h.zS⟩ ?_)
  · have m' := List.mem_of_getElem? e
    refine up_ne' (fun z => h.nS (z ▸ m')) ((if_neg fun z => ?_).trans (h.at_ j a' (by lia) e))
    have := (List.getElem?_inj (List.getElem?_eq_some_iff.mp e).1 h.nd).mp (e.trans (by rw [ha, z]))
    lia
  · exact c1.lst hS h.zS
theorem Fs.fin {H H0 : Hp} {S : Addr} {as : List Addr} {R : Nat → List Int} {b i : Nat} {v : List (Option AV)} {fs : FS} {us : List (Option AV)} {ss : List Stmt} {K : AFlow → St → Prop} (h : Fs H H0 S as R 5) (c : Cl H0 H b v) (hl : as.length = 5) (hv : v[i]? = some (some (rf S)))
    (q : ∀ H', Cl H0 H' b (v.set i (some (.lst (rowsV R)))) → Wx fs ss (V fs H' us) K) : Wx fs ss (V fs H us) K := by
  have e : mix as R 5 = rowsV R := by
    unfold mix rowsV
    rw [List.drop_eq_nil_of_le (by lia)]
    exact List.append_nil _
  have hS := h.cS
  rw [e] at hS
  exact x_frzC (c.at_ i _ hv) hS (q _ (c.dl hS h.zS).set)
theorem Ss.frz {H H0 : Hp} {S : Addr} {as : List Addr} {R : Nat → List Int} {b i : Nat} {v : List (Option AV)} {fs : FS} {us : List (Option AV)} {ss : List Stmt} {K : AFlow → St → Prop} (Z : Ss H H0 S as R) (C : Cl H0 H b v) (hl : as.length = 5) (hv : v[i]? = some (some (rf S)))
    (q : ∀ H', Cl H0 H' b (v.set i (some (.lst (rowsV R)))) → Wx fs ss (V fs H' us) K) : Wx fs ss (V fs H us) K :=
  Fs.step (i := 0) ⟨Z.cS, fun j a _ e => Z.at_ j a e, Z.nd, Z.nS, Z.z, Z.zS⟩ C (by lia) fun H2 F C => F.step C (by lia) fun H2 F C => F.step C (by lia) fun H2 F C => F.step C (by lia) fun H2 F C => F.step C (by lia) fun H2 F C => F.fin C hl hv q
theorem pow_bd {j : Int} (h : 0 ≤ j ∧ j < 5) : 0 ≤ (2 : Int) ^ j.toNat ∧ (2 : Int) ^ j.toNat ≤ 100 := by
  have : j = 0 ∨ j = 1 ∨ j = 2 ∨ j = 3 ∨ j = 4 := by lia
  rcases this with rfl | rfl | rfl | rfl | rfl <;> decide
noncomputable def skV (d : Nat → Nat) : AV := .lst ((List.range 5).map fun k => .int (sk d k : Nat))
inductive Q3 (H0 : Hp) (base : Nat) (d : Nat → Nat) (dv : AV) (it : Option AV) (t : Nat) (H : Hp) : Prop
  | mk (C : Cl H0 H base [some hosV, some gloV, some dv, some (.lst (rowsV (stk d 5))), it, some (.lst (ivs (FL (stk d 5) t))), none, none]) : Q3 H0 base d dv it t H
theorem f_neL' {σ : St} {xs ys : List AV} {l : List Int} {R : Bool → Prop} (h1 : xs = ivs l) (h2 : ys = ivs l) (q : R false) : ∃ c, Cmp .NotEq (.lst xs) (.lst ys) σ c ∧ R c := by
  subst h1 h2
  exact f_neL (by rw [decide_eq_true rfl]; exact q)
theorem flat_len {α β : Type} {g : α → List β} {m : Nat} : ∀ xs : List α, (∀ a ∈ xs, (g a).length ≤ m) → (xs.map g).flatten.length ≤ xs.length * m
  | [], _ => Nat.zero_le _
  | a :: r, h => by
    have ih := flat_len r fun b hb => h b (List.mem_cons_of_mem _ hb)
    have := h a List.mem_cons_self
    rw [List.map_cons, List.flatten_cons, List.length_append, List.length_cons, Nat.succ_mul]
    lia
theorem KL_len (d : Nat → Nat) : (KL d).length ≤ 32 := by
  unfold KL
  exact Nat.le_trans (List.length_filter_le _ _) (by rw [List.length_range]; exact Nat.le_refl _)
theorem stE_get {pr : Nat → List Int} {ks : List Int} {k : Int} (h : k ∈ ks) : (stE pr ks).lookup k = some (.bool (SD pr k)) := by
  unfold stE
  induction ks with
  | nil => exact (List.not_mem_nil h).elim
  | cons a r ih =>
    rw [List.map_cons, List.lookup_cons]
    by_cases e : k = a
    · subst e; rw [beq_self_eq_true]
    · rw [show (k == a) = false by simpa using e]
      exact ih ((List.mem_cons.mp h).resolve_left e)
section
variable {H : Hp} {n : Nat}
theorem fin_ok {vs : List Int} {rv : AV} {base : Nat} {H8 : Hp} {D : Addr} {ep : Nat} {ks : List Int} {d : Nat → Nat} {ring : Bool} (km : ∀ k, k ∈ ks ↔ (0 ≤ k ∧ k < 5) ∧ Fr (G5 (stk d 5)) 5 k = true) (c5 : H8 (base + 5) = some (.cell (some (.lst (ivs (FL (stk d 5) 5)))))) (c6 : H8 (base + 6) = some (.cell (some (rf D)))) (cD : H8 D = some (.dictI (stE (stk d 5) ks) ep)) :
    Wx (FL5 n base) ((fnOf 253).body.drop 16) (V (FL5 n base) H8 (usM vs (some tblV) none (some rv) (some rv) none none none (some (.bool ring)) (some (.lst ((KL d).map fun n => .int (n : Nat)))))) fun fl s' => ∃ H', SubH H' s'.H ∧ retOf fl = .bool true := by
  conv => arg 2; whnf
  have hkl := KL_len d
  have hfl : ∀ a ∈ KL d, ((FL (stk d 5) 5).map fun k => AV.bool (SD (stk d 5) k == bt a k.toNat)).length ≤ 5 := fun a _ => by rw [List.length_map]; exact FL_len
  have hz := flat_len _ hfl
  walk_at "wv"
  refine w_comp (comp3 (cs := fun _ => [("stands", base + 6), ("free", base + 5)]) (KL d) (fun _ => FL (stk d 5) 5) (fun n => .int (n : Nat)) .int (fun n k => .bool (SD (stk d 5) k == bt n k.toNat)) [none, none, none] (fun us => ∃ b c, us = [none, b, c]) (fun m us => ∃ c, us = [none, some (.int (m : Nat)), c]) rfl (by kernel_rfl) rfl (fun _ => by kernel_rfl) ⟨_, _, rfl⟩
    (fun l us ⟨c, e⟩ => ⟨_, c, e⟩) (by walk_at "lm") (i_plain (fun _ _ => rfl) ?_))
  walk_at "wv"
  refine e_sr sr_lst ⟨rfl, fun _ => trivial, fun b2 m us hm ⟨b, c, e⟩ => ?_, ?_⟩
  · subst e
    have hm := KL_mem.mp hm
    walk_at "wv"
    refine ⟨_, rfl, ⟨_, rfl⟩, ?_⟩
    refine i_plain (fun _ _ => rfl) ?_
    walk_at "wv"
    refine e_sr sr_lst ⟨rfl, rfl, fun _ => trivial, fun k us hk ⟨c, e⟩ => ?_⟩
    subst e
    have hk := FL_mem.mp hk
    walk_at "wv"
    refine ⟨_, rfl, ⟨_, rfl⟩, ?_⟩
    walk_at "wv"
    refine f_dict cD (stE_get ((km k).mpr hk)) ?_
    walk_at "wv"
    refine ⟨_, o_shr (by lia) (by lia) hk.1.1 hk.1.2, ?_⟩
    walk_at "wv"
    refine ⟨_, o_and, ?_⟩
    walk_at "wv"
    exact ⟨rfl, rfl⟩
  rw [show ((KL d).map fun a => (FL (stk d 5) 5).map fun k => AV.bool (SD (stk d 5) k == bt a k.toNat)).flatten = (((KL d).map fun a => (FL (stk d 5) 5).map fun k => SD (stk d 5) k == bt a k.toNat).flatten).map .bool by
    rw [List.map_flatten, List.map_map]
    exact congrArg List.flatten (List.map_congr_left fun a _ => (List.map_map ..).symm)]
  refine bu_all ?_
  walk_at "wv"
  refine ⟨_, fun _ _ z => z, congrArg AV.bool ?_⟩
  refine List.all_eq_true.mpr fun b hb => ?_
  obtain ⟨l, hl, hb⟩ := List.mem_flatten.mp hb
  obtain ⟨m, hm, rfl⟩ := List.mem_map.mp hl
  obtain ⟨k, hk, rfl⟩ := List.mem_map.mp hb
  have hm := KL_mem.mp hm
  have hk := FL_mem.mp hk
  show (SD (stk d 5) k == bt m k.toNat) = true
  rw [bt_eq hm.1 (by lia), isK_sd hm.1 hm.2 hk.1 hk.2]
  exact beq_self_eq_true _
theorem tail_ok (vs : List Int) (hv : vs.length ≤ 63) (base : Nat) (H2 : Hp) (S : Addr) (as : List Addr) (it : Option AV) (rv : AV) (hal : as.length = 5) (C : Cl H H2 base [some hosV, some gloV, some (.lst (ivs (drw vs))), some (rf S), it, none, none, none]) (Z : Ss H2 H S as (stk (dr vs) 5)) :
    Wx (FL5 n base) ((fnOf 253).body.drop 9) (V (FL5 n base) H2 (usM vs (some tblV) none (some rv) (some rv) none none none none none)) fun fl s' => ∃ H', SubH H' s'.H ∧ retOf fl = .bool true := by
  conv => arg 2; whnf
  have O := stk_ok (dr vs)
  generalize dr vs = d at *
  generalize AV.lst (ivs (drw vs)) = dv at *
  refine Z.frz C hal (i := 3) rfl fun H3 C' => ?_
  clear C Z hal
  have C : Cl H H3 base [some hosV, some gloV, some dv, some (.lst (rowsV (stk d 5))), it, none, none, none] := C'
  clear C'
  have c5 := C.at_ 5 _ rfl
  walk_at "wv"
  refine w_listV ?_
  walk_at "wv"
  refine ⟨rfl, Nat.zero_le _, ?_⟩
  walk_at "wv"
  have C1 : Cl H (upd H3 (base + 5) (.cell (some (.lst [])))) base [some hosV, some gloV, some dv, some (.lst (rowsV (stk d 5))), it, some (.lst (ivs (FL (stk d 5) 0))), none, none] := FL_0 ▸ C.set (i := 5)
  generalize upd H3 (base + 5) (.cell (some (.lst []))) = H4 at *
  clear C c5 H3
  refine w1_cut (fun _ : Unit => usM vs (some tblV) none (some rv) (some rv) none none none none none) (fun H2 _ => Q3 H base d dv it 5 H2) ?_ ?_
  · refine x_forC (by decide +kernel) (i_plain (fun _ _ => rfl) ?_)
    walk_at "wv"
    refine bu_range (e_sr (sr_rng (n := 5) (by walk_at "lm")) ⟨H4, usM vs (some tblV) none (some rv) (some rv) none none none none none, rfl, Q3 H base d dv it, ⟨C1⟩, fun _ _ _ _ => trivial, ?_, fun H2 h => ⟨H2, _, (), rfl, rfl, h⟩⟩)
    clear C1
    rintro t v H5 hv0 ⟨C⟩
    obtain ⟨ht, rfl⟩ := nats_get hv0
    have c3 := C.at_ 3 _ rfl
    have c5 := C.at_ 5 _ rfl
    walk_at "wv"
    refine comp2 (z := ".0") (cs := fun _ => [("strikers", base + 3), ("free", base + 5)]) (List.range 5) (fun k => .int (k : Nat)) (fun k => if Fr (G5 (stk d 5)) (t + 1) (k : Nat) = true then some (.int (k : Nat)) else none) (ivs (FL (stk d 5) (t + 1))) FL_ys rfl (by kernel_rfl) (by decide +kernel) rfl (fun _ => by kernel_rfl) (i_plain (fun _ _ => rfl) ?_)
    walk_at "wv"
    refine bu_range (e_sr (sr_rng (n := 5) (by walk_at "lm")) ⟨rfl, fun _ => trivial, show 5 < lim by walk_at "lm", fun b2 k hk => ?_, ?_⟩)
    · have hk := List.mem_range.mp hk
      walk_at "wv"
      have hsl := pr_len O k
      refine w_comp (compM (z := ".0") (cs := fun _ => [("free", base + 5)]) (stk d 5 k) .int (fun j => .bool ((FL (stk d 5) t).contains j)) (((stk d 5 k).map fun j => (FL (stk d 5) t).contains j).map .bool) (by rw [List.map_map]; rfl) rfl (by kernel_rfl) (by decide +kernel) rfl (fun _ => by kernel_rfl) (by walk_at "lm") (i_plain (fun _ _ => rfl) ?_))
      walk_at "wv"
      refine f_list (k := k) (.lst _) (by rw [rows_len]; exact seq_nat hk (by walk_at "lm")) (rows_get hk) ?_
      refine e_sr sr_lst ⟨rfl, fun _ => trivial, fun b3 j hj => ?_, ?_⟩
      · walk_at "wv"
        exact ⟨_, n_liI (.lst _), rfl, rfl⟩
      refine bu_all ?_
      walk_at "wv"
      rw [List.all_map, show (stk d 5 k).all (id ∘ fun j => (FL (stk d 5) t).contains j) = Fr (G5 (stk d 5)) (t + 1) (k : Nat) from FL_step O hk]
      refine ⟨fun e => ?_, fun e => ⟨rfl, br_f rfl (if_neg fun z => ff (e.symm.trans z))⟩⟩
      walk_at "wv"
      refine ⟨rfl, br_t rfl ?_⟩
      walk_at "wv"
      exact ⟨rfl, if_pos e⟩
    walk_at "wv"
    exact ⟨_, _, rfl, rfl, ⟨C.set (i := 5)⟩⟩
  clear C1
  rintro H5 - ⟨C⟩
  have c3 := C.at_ 3 _ rfl
  walk_at "wv"
  refine ac_V (binds := [("strikers", .lst (rowsV (stk d 5)))]) lib248 (by kernel_rfl) (given_ok (stk d 5) O fun H6 D ep ks s6 zD cD kn km => ?_)
  have C6 := C.sub s6
  clear C c3 s6 zD
  have c6 : H6 (base + 6) = some (.cell none) := C6.at_ 6 _ rfl
  have cD6 : upd H6 (base + 6) (.cell (some (rf D))) D = some (.dictI (stE (stk d 5) ks) ep) := up_ne' (ne_of cD c6 rfl) cD
  have C : Cl H (upd H6 (base + 6) (.cell (some (rf D)))) base [some hosV, some gloV, some dv, some (.lst (rowsV (stk d 5))), it, some (.lst (ivs (FL (stk d 5) 5))), some (rf D), none] := C6.set (i := 6)
  have c5 := C.at_ 5 _ rfl
  have c6' := C.at_ 6 _ rfl
  walk_at "wv"
  generalize upd H6 (base + 6) (.cell (some (rf D))) = H7 at *
  clear C6 c6 cD
  have hrg := ring_eq O
  have hfl := FL_len (pr := stk d 5) (t := 5)
  have hkl : ks.length ≤ 5 := by rw [← (fl_perm kn km).length_eq]; exact hfl
  refine bu_len (.li (.lst _)) (by rw [ivs_len]; walk_at "lm") ?_
  walk_at "wv"
  refine e_cmp i_boolN ?_
  rw [ivs_len]
  refine br_f (by rw [hrg, show decide (((FL (stk d 5) 5).length : Int) < 5) = decide ((FL (stk d 5) 5).length < 5) from decide_eq_decide.mpr (by lia), beq_self_eq_true]; rfl) ?_
  walk_at "wv"
  have hes : (stE (stk d 5) ks).map (·.1) = ks := by unfold stE; rw [List.map_map]; exact List.map_id _
  refine bu_sortedD (ms := FL (stk d 5) 5) cD6 (by unfold stE; rw [List.length_map]; lia) (by rw [hes]; exact fl_perm kn km) FL_le ?_
  walk_at "wv"
  refine f_neL ?_
  refine br_f (by simp) ?_
  walk_at "wv"
  have c3 := C.at_ 3 _ rfl
  have c7 := C.at_ 7 _ rfl
  generalize hr : (!(G5 (stk d 5)).nodes.all (Fr (G5 (stk d 5)) 5)) = ring at *
  refine compM (z := ".0") (cs := fun _ => []) (List.range 5) (fun k => .lst (ivs (stk d 5 k))) (fun k => .int (sk d k : Nat)) _ rfl rfl (by kernel_rfl) (by decide +kernel) rfl (fun _ => rfl) (show 5 < lim by walk_at "lm") (i_plain (fun _ _ => rfl) ?_)
  walk_at "wv"
  refine e_sr sr_lst ⟨rfl, fun _ => trivial, fun b2 k hk => ?_, ?_⟩
  · have hk := List.mem_range.mp hk
    have hsl := pr_len O k
    walk_at "wv"
    refine w_comp (compM (z := ".0") (cs := fun _ => []) (stk d 5 k) .int (fun j => .int (2 ^ j.toNat)) (((stk d 5 k).map fun j => (2 : Int) ^ j.toNat).map .int) (by rw [List.map_map]; rfl) rfl (by kernel_rfl) (by decide +kernel) rfl (fun _ => rfl) (by walk_at "lm") (i_plain (fun _ _ => rfl) ?_))
    walk_at "wv"
    refine e_sr sr_lst ⟨rfl, fun _ => trivial, fun b3 j hj => ?_, ?_⟩
    · have hj := O.mem k j hj
      walk_at "wv"
      exact ⟨_, o_pow2 hj.1 hj.2, rfl, rfl⟩
    refine bu_sum (fun a ha => ?_) (by rw [List.length_map]; lia) ?_
    · obtain ⟨j, hj, rfl⟩ := List.mem_map.mp ha
      exact pow_bd (O.mem k j hj)
    rw [sk_sum]
    exact ⟨rfl, rfl⟩
  walk_at "wv"
  have C8 : Cl H (upd H7 (base + 7) (.cell (some (skV d)))) base _ := C.set (i := 7) (x := some (skV d))
  have cD8 : upd H7 (base + 7) (.cell (some (skV d))) D = some (.dictI (stE (stk d 5) ks) ep) := up_ne' (ne_of cD6 c7 rfl) cD6
  show Wco _ _ _ _ (V _ (upd H7 (base + 7) (.cell (some (skV d)))) _) _
  generalize upd H7 (base + 7) (.cell (some (skV d))) = H8 at *
  clear C c5 c6' c3 c7 cD6
  have c5 : H8 (base + 5) = some (.cell (some (.lst (ivs (FL (stk d 5) 5))))) := C8.at_ 5 _ rfl
  have c6 : H8 (base + 6) = some (.cell (some (rf D))) := C8.at_ 6 _ rfl
  have c7 : H8 (base + 7) = some (.cell (some (skV d))) := C8.at_ 7 _ rfl
  refine compCF (z := ".0") (cs := fun b => [("n", b), ("struck", base + 7)]) (List.range 32) (fun n => .int (n : Nat)) (fun n => if isKer d n = true then some (.int (n : Nat)) else none) ((KL d).map fun n => .int (n : Nat)) (fm_filter _ _ _) rfl (by kernel_rfl) (by decide +kernel) (by kernel_rfl) (fun _ => by kernel_rfl) (fun _ => rfl) (show 32 < lim by walk_at "lm") (i_plain (fun _ _ => rfl) ?_)
  walk_at "wv"
  refine bu_range (e_sr (sr_rng (n := 32) (by walk_at "lm")) ⟨rfl, fun _ _ _ => trivial, fun b2 m hm z2 => ?_, ?_⟩)
  · have hm := List.mem_range.mp hm
    have z2 : H8 b2 = none := z2
    have n7 := ne_new c7 z2
    have c7' : upd H8 b2 (.cell (some (.int (m : Nat)))) (base + 7) = some (.cell (some (skV d))) := up_ne' n7 c7
    show Wif _ _ (V _ (upd H8 b2 (.cell (some (.int (m : Nat))))) _) _
    have cb : upd H8 b2 (.cell (some (.int (m : Nat)))) b2 = some (.cell (some (.int (m : Nat)))) := upd_same
    generalize upd H8 b2 (.cell (some (.int (m : Nat)))) = H9 at *
    walk_at "wv"
    refine w_comp (compM (z := ".0") (cs := fun _ => [("struck", base + 7), ("n", b2)]) (List.range 5) (fun k => .int (k : Nat)) (fun k => .bool (bt m k == bz m (sk d k))) (((List.range 5).map fun k => bt m k == bz m (sk d k)).map .bool) (by rw [List.map_map]; rfl) rfl (by kernel_rfl) (by decide +kernel) rfl (fun _ => by kernel_rfl) (show 5 < lim by walk_at "lm") (i_plain (fun _ _ => rfl) ?_))
    walk_at "wv"
    refine bu_range (e_sr (sr_rng (n := 5) (by walk_at "lm")) ⟨rfl, fun _ => trivial, fun b3 k hk => ?_, ?_⟩)
    · have hk := List.mem_range.mp hk
      walk_at "wv"
      refine ⟨_, o_shr (by lia) (by lia) (by lia) (by lia), ?_⟩
      walk_at "wv"
      refine ⟨_, o_and, ?_⟩
      walk_at "wv"
      refine f_list (k := k) (.lst _) (seq_nat (by rw [List.length_map, List.length_range]; exact hk) (by rw [List.length_map, List.length_range]; walk_at "lm")) (by rw [List.getElem?_map, List.getElem?_range hk]; rfl) ?_
      refine ⟨_, o_and, ?_⟩
      walk_at "wv"
      exact ⟨rfl, rfl⟩
    refine bu_all ?_
    walk_at "wv"
    rw [List.all_map, show (List.range 5).all (id ∘ fun k => bt m k == bz m (sk d k)) = isKer d m from rfl]
    refine ⟨fun e => ?_, fun e => ⟨rfl, br_f rfl (if_neg fun z => ff (e.symm.trans z))⟩⟩
    walk_at "wv"
    refine ⟨rfl, br_t rfl ?_⟩
    walk_at "wv"
    exact ⟨rfl, if_pos e⟩
  walk_at "wv"
  cases ring with
  | true =>
    exact br_f rfl (br_f rfl (w_nil (k_next (fin_ok km c5 c6 cD8))))
  | false =>
    refine br_t rfl ?_
    walk_at "wv"
    refine w_listV ?_
    walk_at "wv"
    refine w_comp (comp2 (z := ".0") (cs := fun _ => [("stands", base + 6)]) ks .int (fun k => if SD (stk d 5) k = true then some (.int (2 ^ k.toNat)) else none) (((ks.filter (SD (stk d 5))).map fun j => (2 : Int) ^ j.toNat).map .int) (by rw [fm_filter, List.map_map]; rfl) rfl (by kernel_rfl) (by decide +kernel) rfl (fun _ => by kernel_rfl) (i_plain (fun _ _ => rfl) ?_))
    walk_at "wv"
    refine e_sr (sr_keys cD8) ⟨by unfold stE; rw [List.map_map]; rfl, fun _ => cD8, by walk_at "lm", fun b2 k hk => ?_, ?_⟩
    · walk_at "wv"
      refine f_dict cD8 (stE_get hk) ?_
      walk_at "wv"
      refine ⟨fun e => ?_, fun e => ⟨rfl, br_f rfl (if_neg fun z => ff (e.symm.trans z))⟩⟩
      walk_at "wv"
      refine ⟨rfl, br_t rfl ?_⟩
      walk_at "wv"
      have hk := ((km k).mp hk).1
      exact ⟨_, o_pow2 hk.1 hk.2, rfl, if_pos e⟩
    have hfil := List.length_filter_le (SD (stk d 5)) ks
    refine bu_sum (fun a ha => ?_) (by rw [List.length_map]; lia) ?_
    · obtain ⟨j, hj, rfl⟩ := List.mem_map.mp ha
      exact pow_bd ((km j).mp (List.mem_filter.mp hj).1).1
    rw [stands_sum kn km hr]
    walk_at "wv"
    refine ⟨rfl, show 1 ≤ lim by walk_at "lm", ?_⟩
    refine f_neL' (l := [((sumF fun k => SD (stk d 5) (k : Nat) : Nat) : Int)]) (by rw [KL_one hr]; rfl) rfl ?_
    exact br_f rfl (w_nil (k_next (fin_ok km c5 c6 cD8)))
theorem law2_ok (vs : List Int) (hv : vs.length ≤ 63) : Body TT (n + 5) (fnOf 253) [("script", .lst (ivs vs))] H fun v _ => v = .bool true :=
  law2_of vs hv fun base H2 S as it rv hal C Z => tail_ok vs hv base H2 S as it rv hal C Z
end
end
section
open PySem PySem.W PyProof.Rows PySem.Calls PySem.SeqAt
structure Fk (K : Frag) : Prop where
  a0 : fk0 K = fv0
  a1 : fk1 K = fv1
  a2 : fk2 K = fv2
  a3 : fk3 K = fv3
  a4 : fk4 K = fv4
  a5 : fk5 K = fv5
  a6 : fk6 K = fv6
  a7 : fk7 K = fv7
  a8 : fk8 K = fv8
  a9 : fk9 K = fv9
  a10 : fk10 K = fv10
  a11 : fk11 K = fv11
  a12 : fk12 K = fv12
  a13 : fk13 K = fv13
theorem fk_of {K : Frag} (h : factsK K = factsV) : Fk K :=
  ⟨congrArg (·.1) h, congrArg (·.2.1) h, congrArg (·.2.2.1) h, congrArg (·.2.2.2.1) h, congrArg (·.2.2.2.2.1) h, congrArg (·.2.2.2.2.2.1) h, congrArg (·.2.2.2.2.2.2.1) h, congrArg (·.2.2.2.2.2.2.2.1) h,
   congrArg (·.2.2.2.2.2.2.2.2.1) h, congrArg (·.2.2.2.2.2.2.2.2.2.1) h, congrArg (·.2.2.2.2.2.2.2.2.2.2.1) h, congrArg (·.2.2.2.2.2.2.2.2.2.2.2.1) h, congrArg (·.2.2.2.2.2.2.2.2.2.2.2.2.1) h, congrArg (·.2.2.2.2.2.2.2.2.2.2.2.2.2) h⟩
section
variable {K : Frag}
theorem fi_all : ∀ x ∈ fns, x.2.1.scope.kind = .function ∧ x.2.1.scope.isCoroutine = false ∧ x.2.1.scope.isGenerator = false ∧ (x.2.1.scope.names.map (·.1)).Nodup ∧ (x.2.1.params ++ x.2.1.vararg.toList).Nodup ∧
    (∀ y ∈ x.2.1.params ++ x.2.1.vararg.toList, x.2.1.scope.names.lookup y = some .local ∨ x.2.1.scope.names.lookup y = some .cell) ∧ (x.2.1.lam = true → ∃ p ∈ tabs1, x.1 - 1 = p.1) := by decide +kernel
theorem fn_at (k : Fk K) {C : Cx} (hK : C.K = K) (hT : C.tabs = tabs1) : ∀ x ∈ fns, ∃ oc od fd osl, FnIn C x.1 x.2.1 oc od fd osl ∧ fd.params.posonlyargs = [] ∧ fd.params.kwonlyargs = [] ∧ fd.params.kwarg = none ∧ fd.defaults = x.2.2 ∧
    fd.params.args.map (·.arg) = x.2.1.params ∧ fd.params.vararg.map (·.arg) = x.2.1.vararg := fun x hx => by
  have e : fnV K x.1 = some _ := List.map_inj_left.mp k.a0 x hx
  unfold fnV at e
  split at e
  · rename_i oc od fd osl q
    have e := Option.some.inj e
    unfold fdV at e
    simp only [Prod.mk.injEq] at e
    obtain ⟨e1, e2, e3, e4, e5, e6, e7, e8, e9, e10, e11, e12, e13⟩ := e
    obtain ⟨f1, f2, f3, f4, f5, f6, f7⟩ := fi_all x hx
    subst hK
    exact ⟨oc, od, fd, osl, ⟨q, e1, e2, e3, e4, e5, e6, fun h => let ⟨p, hp, e⟩ := f7 h; ⟨p, hT ▸ hp, e7.trans (congrArg Value.ref e)⟩, f1, f2, f3, f4, f5, f6⟩, List.isEmpty_iff.mp e8, List.isEmpty_iff.mp e9, Option.isNone_iff_eq_none.mp e10, e11, e12, e13⟩
  · cases e
theorem fk_b (k : Fk K) (i : Nat) (hi : i < 12) : (fk1 K)[i]? = some true := by
  rw [k.a1]
  unfold fv1
  revert i
  decide
theorem ci234 (k : Fk K) : CtorIn K 234 170 := ⟨Option.some.inj (fk_b k 6 (by decide)), Option.some.inj (congrArg (·[2]?) k.a2), Option.some.inj (fk_b k 7 (by decide)), Option.some.inj (fk_b k 8 (by decide))⟩
theorem ci137 (k : Fk K) : CtorIn K 137 133 := ⟨Option.some.inj (fk_b k 9 (by decide)), Option.some.inj (congrArg (·[3]?) k.a2), Option.some.inj (fk_b k 10 (by decide)), Option.some.inj (fk_b k 11 (by decide))⟩
theorem methOf_mem {name : Str} {f : Nat} (h : methOf name = some f) : ∃ x ∈ meths, name = x.1 ∧ f = x.2 := by
  unfold methOf at h
  have go : ∀ {x : String} {g : Nat} {r : Option Nat}, (if name = (x : Str) then some g else r) = some f → (name = (x : Str) ∧ f = g) ∨ r = some f := fun {x g r} e => by
    by_cases q : name = (x : Str)
    · rw [if_pos q] at e; cases e; exact .inl ⟨q, rfl⟩
    · rw [if_neg q] at e; exact .inr e
  rcases go h with e | h
  · exact ⟨_, .head _, e⟩
  rcases go h with e | h
  · exact ⟨_, .tail _ (.head _), e⟩
  rcases go h with e | h
  · exact ⟨_, .tail _ (.tail _ (.head _)), e⟩
  rcases go h with e | h
  · exact ⟨_, .tail _ (.tail _ (.tail _ (.head _))), e⟩
  rcases go h with e | h
  · exact ⟨_, .tail _ (.tail _ (.tail _ (.tail _ (.head _)))), e⟩
  rcases go h with e | h
  · exact ⟨_, .tail _ (.tail _ (.tail _ (.tail _ (.tail _ (.head _))))), e⟩
  rcases go h with e | h
  · exact ⟨_, .tail _ (.tail _ (.tail _ (.tail _ (.tail _ (.tail _ (.head _)))))), e⟩
  · cases h
theorem slotNo_mem {name : Str} {i : Nat} (h : slotNo name = some i) : ∃ x ∈ slots, name = x.1 ∧ i = x.2 := by
  unfold slotNo at h
  by_cases q : name = ("node" : Str)
  · rw [if_pos q] at h; cases h; exact ⟨_, .head _, q, rfl⟩
  rw [if_neg q] at h
  by_cases q : name = ("npredecessors" : Str)
  · rw [if_pos q] at h; cases h; exact ⟨_, .tail _ (.head _), q, rfl⟩
  rw [if_neg q] at h
  by_cases q : name = ("successors" : Str)
  · rw [if_pos q] at h; cases h; exact ⟨_, .tail _ (.tail _ (.head _)), q, rfl⟩
  rw [if_neg q] at h; cases h
theorem meths_cn : ∀ x ∈ meths, copiedNames.contains (x.1 : Str) = false ∧ tsAttrs.contains (x.1 : Str) = false := by decide +kernel
theorem cls_ok (k : Fk K) : ClsOk K := by
  refine ⟨Option.some.inj (fk_b k 0 (by decide)), Option.some.inj (fk_b k 1 (by decide)), Option.some.inj (congrArg (·[0]?) k.a2), Option.some.inj (fk_b k 2 (by decide)), List.map_inj_left.mp k.a3, fun name f h => ?_,
    Option.some.inj (fk_b k 3 (by decide)), Option.some.inj (fk_b k 4 (by decide)), Option.some.inj (congrArg (·[1]?) k.a2), Option.some.inj (fk_b k 5 (by decide)), fun name i h => ?_, fun name f h => ?_⟩
  · obtain ⟨x, hx, rfl, rfl⟩ := methOf_mem h
    have e := List.map_inj_left.mp k.a4 x hx
    exact ⟨congrArg (·.1) e, congrArg (·.2.1) e⟩
  · obtain ⟨x, hx, rfl, rfl⟩ := slotNo_mem h
    have e := List.map_inj_left.mp k.a5 x hx
    exact ⟨_, congrArg (·.1) e, congrArg (·.2.1) e, congrArg (·.2.2.1) e, congrArg (·.2.2.2.1) e, congrArg (·.2.2.2.2) e⟩
  · obtain ⟨x, hx, rfl, rfl⟩ := methOf_mem h
    have e := List.map_inj_left.mp k.a4 x hx
    exact ⟨congrArg (·.2.2.1) e, congrArg (·.2.2.2.1) e, congrArg (·.2.2.2.2.1) e, congrArg (·.2.2.2.2.2) e, meths_cn x hx⟩
noncomputable def cxOf (w : World) (s : Shared) (K : Frag) : Cx where
  prog := PySem.Challenge.rw_ku0030_02.row.prog
  w := w
  K := K
  B := hideAll s.heap tabA
  tabs := tabs1
  T := TT
  os := s.os
theorem in_hidden {K : Frag} {h : Heap} (X : K.In h) (n : ∀ a ∈ tabA, K.lookup a = none) : K.In (hideAll h tabA) := fun a o e =>
  hideAll_get _ (X a o e) fun m => by rw [n a m] at e; cases e
theorem ns_hidden {h : Heap} {a : Addr} {m : Str → Option Value} (x : h.Ns a m) (n : a ∉ tabA) : (hideAll h tabA).Ns a m := let ⟨o, es, ep, e, r⟩ := x; ⟨o, es, ep, hideAll_get _ e n, r⟩
theorem obj3 (k : Fk K) : ∃ oc od ep osl, K.lookup 3 = some ⟨oc, od, .dict (es3 K) ep, osl⟩ := by
  have h : nsFind (es3 K) "__builtins__" = some (.ref 4) := k.a7
  unfold es3 at h ⊢
  split at h
  · rename_i oc od es ep osl q
    rw [q]
    exact ⟨_, _, _, _, rfl⟩
  · cases h
theorem nsFind_key {es : Array DictEntry} {x : Str} {v : Value} (h : nsFind es x = some v) : ∃ e ∈ es.toList, e.key.isStr x = true := by
  unfold nsFind findBy at h
  obtain ⟨e, he, _⟩ := Option.map_eq_some_iff.mp h
  exact ⟨e, Array.mem_toList_iff.mpr (Array.mem_of_find?_eq_some he), Array.find?_some (p := fun (e : DictEntry) => e.key.isStr x) he⟩
theorem isStr_eq {x n : Str} {t : Tok} (h : (Value.str n t).isStr x = true) : n = x := by
  simpa [Value.isStr] using h
theorem no_clash (k : Fk K) {x : Str} (h1 : TT.glob x = none) (h2 : (bootBuiltins x).isSome = true) (h3 : x ≠ "__name__") : nsFind (es3 K) x = none := by
  cases q : nsFind (es3 K) x with
  | none => rfl
  | some v =>
    obtain ⟨e, he, hk⟩ := nsFind_key q
    have := List.all_eq_true.mp k.a8 e he
    split at this
    · rename_i n t hn
      rw [hn] at hk
      obtain rfl := isStr_eq hk
      rw [h1] at this
      simp [h3] at this
      rw [this] at h2; cases h2
    · cases this
theorem glob_in (k : Fk K) {x : Str} {v : Value} (h : TT.glob x = some v) : nsFind (es3 K) x = some v := by
  have h' : (globs.find? fun (p : String × Value) => x == (p.1 : Str)).map (·.2) = some v := h
  obtain ⟨p, hp, rfl⟩ := Option.map_eq_some_iff.mp h'
  have hx : (x == (p.1 : Str)) = true := List.find?_some (p := fun (p : String × Value) => x == (p.1 : Str)) hp
  rw [eq_of_beq hx]
  exact List.map_inj_left.mp k.a6 p (List.mem_of_find?_eq_some hp)
theorem heads_at (k : Fk K) : ∀ p ∈ tabs1, codeHdIn K p.1 p.2 = true := List.map_inj_left.mp k.a9
noncomputable def PatIn (K : Frag) (p : Addr) (code : Array Nat) (groups : Nat) : Prop :=
  ∃ pat tok fl tokf ca, K.lookup p = some { cls := .type "re.Pattern", data := .fields #[.str pat tok, .int fl tokf, rawInt groups, .none, .none, .ref ca, rawInt 0] } ∧
    K.lookup ca = some { cls := .type "tuple", data := .seq (code.map fun (w : Nat) => rawInt (w : Int)) }
theorem PatIn.at {K : Frag} {h : Heap} {p : Addr} {code : Array Nat} {groups : Nat} (x : PatIn K p code groups) (X : K.In h) : PatAt h p code groups :=
  let ⟨a, b, c, d, e, h1, h2⟩ := x; ⟨a, b, c, d, e, X _ _ h1, X _ _ h2⟩
theorem pat_at (k : Fk K) {h : Heap} (X : K.In h) : ∀ x ∈ pats, PatAt h x.1 x.2.1 x.2.2.1 := fun x hx => by
  have e : (K.lookup x.1, K.lookup (x.1 - 1)) = _ := List.map_inj_left.mp k.a11 x hx
  exact PatIn.at ⟨_, _, _, _, _, (Prod.mk.inj e).1, (Prod.mk.inj e).2⟩ X
theorem tab101 {prog : Program} {w : World} {h : Heap} (k : Fk K) (X : K.In h) : ∃ f, h.MapOf (intKind prog w) 101 f ∧ ∀ c : Nat, c < 128 → (special c = true → ∃ u, f (c : Int) = some (.str ⟨#[92, c]⟩ u)) ∧ (special c = false → f (c : Int) = none) := by
  have e := k.a12
  unfold fk12 at e
  split at e
  · rename_i oc od es ep osl q
    have e := Option.some.inj e
    simp only [Prod.mk.injEq] at e
    obtain ⟨rfl, rfl, rfl, keys101, vals101⟩ := e
    refine ⟨fun k => findBy Value.isInt es k, ⟨_, _, ep, X _ _ q, ⟨rfl, rfl, rfl⟩, rfl, fun en he => ?_, fun k => rfl⟩, fun c hc => ?_⟩
    · have := List.all_eq_true.mp keys101 en (Array.mem_toList_iff.mpr he)
      split at this
      · rename_i i t hi
        exact ⟨i, by show Value.isInt i en.key = true; rw [hi]; simp [Value.isInt], eq_of_beq this⟩
      · cases this
    · have := List.all_eq_true.mp vals101 c (List.mem_range.mpr hc)
      unfold wants at this
      refine ⟨fun hs => ?_, fun hs => ?_⟩
      · rw [if_pos hs] at this
        dsimp only
        split at this
        · rename_i s u hv
          rw [hv, eq_of_beq this]
          exact ⟨u, rfl⟩
        · cases this
      · rw [hs] at this
        simpa using this
  · cases e
theorem cxre {w : World} {s : Shared} (KX : K.In s.heap) (k : Fk K) (no : ∀ a ∈ tabA, K.lookup a = none)   : CxRe (cxOf w s K) := by
  have X : K.In (hideAll s.heap tabA) := in_hidden KX no
  have p := pat_at k X
  exact ⟨p _ (.head _), p _ (.tail _ (.head _)), p _ (.tail _ (.tail _ (.head _))), p _ (.tail _ (.tail _ (.tail _ (.head _)))), p _ (.tail _ (.tail _ (.tail _ (.tail _ (.head _))))), p _ (.tail _ (.tail _ (.tail _ (.tail _ (.tail _ (.head _)))))),
    p _ (.tail _ (.tail _ (.tail _ (.tail _ (.tail _ (.tail _ (.head _))))))), p _ (.tail _ (.tail _ (.tail _ (.tail _ (.tail _ (.tail _ (.tail _ (.head _)))))))), tab101 k X⟩
theorem fns_lib {a : Addr} (h : libs.contains a = true) : (a, fnOf a, Value.none) ∈ fns := List.mem_append.mpr (.inl (List.mem_map.mpr ⟨a, List.contains_iff_mem.mp h, rfl⟩))
theorem fnIn_cx (k : Fk K) {w : World} {s : Shared} {a : Addr} {fi : FI} (h : (a, fi, Value.none) ∈ fns) : ∃ oc od fd osl, FnIn (cxOf w s K) a fi oc od fd osl ∧ PlainDef fd fi.params fi.vararg :=
by
  obtain ⟨oc, od, fd, osl, f, p1, p2, p3, p4, p5, p6⟩ := fn_at k (C := cxOf w s K) rfl rfl _ h
  exact ⟨oc, od, fd, osl, f, p1, p2, p3, p4, p5, p6, (List.nodup_append.mp f.nd).1⟩
theorem va234 : (ctOf 234).vararg = none := by kernel_rfl
theorem par234 : (ctOf 234).params = [Str.ofString "self", Str.ofString "graph"] := by kernel_rfl
theorem liball {w : World} {s : Shared} (KX : K.In s.heap) (k : Fk K) (no : ∀ a ∈ tabA, K.lookup a = none) : LibAll (cxOf w s K) := by
  have X : K.In (hideAll s.heap tabA) := in_hidden KX no
  refine ⟨fun a fi h => ?_, fun fi h => ?_, fun fi h => ?_⟩
  · have h' : (if libs.contains a then some (fnOf a) else none) = some fi := h
    by_cases hc : libs.contains a = true
    · rw [if_pos hc] at h'; cases h'
      exact fnIn_cx k (fns_lib hc)
    · rw [if_neg hc] at h'; cases h'
  · have h' : some (ctOf 234) = some fi := h
    cases h'
    obtain ⟨oc, od, fd, osl, f, p1, p2, p3, p4, p5, p6⟩ := fn_at k (C := cxOf w s K) rfl rfl (170, ctOf 234, .ref 163) (List.mem_append.mpr (.inr (.head _)))
    have e := k.a10
    unfold fk10 at e
    split at e
    · rename_i ob od' xs nn osl' q
      cases e
      exact ⟨170, oc, od, fd, osl, 163, _, nn, ci234 k, f, p1, p2, p3, Option.map_eq_none_iff.mp (p6.trans va234), p5.trans par234, par234, va234, p4, X _ _ q, rfl⟩
    · cases e
  · have h' : some (ctOf 137) = some fi := h
    cases h'
    obtain ⟨oc, od, fd, osl, f⟩ := fnIn_cx k (w := w) (s := s) (a := 133) (fi := ctOf 137) (List.mem_append.mpr (.inr (.tail _ (.head _))))
    exact ⟨133, oc, od, fd, osl, ci137 k, f⟩
theorem exc_in (k : Fk K) {B : Heap} (X : K.In B) : ExcIn B := by
  have e := k.a13
  unfold fk13 at e
  split at e
  · rename_i c dd cd sl q
    split at e
    · rename_i oc od es ep osl q2
      have e := Option.some.inj e
      simp only [Prod.mk.injEq] at e
      obtain ⟨rfl, hm, hdel, hlen, h4, hall, hni⟩ := e
      obtain ⟨nm, bs, mro, N, qn, hd, sn, sub, ab, col, del⟩ := cd
      dsimp only at hm hdel q2
      subst hm hdel
      have hsl : ∃ k0 k1 k2 k3 k5, sl = #[k0, k1, k2, k3, some (.builtin "ValueError.__new__"), k5] := by
        obtain ⟨l⟩ := sl
        obtain ⟨k0, l, rfl⟩ := List.exists_cons_of_length_eq_add_one (n := 5) hlen
        obtain ⟨k1, l, rfl⟩ := List.exists_cons_of_length_eq_add_one (n := 4) (Nat.succ.inj hlen)
        obtain ⟨k2, l, rfl⟩ := List.exists_cons_of_length_eq_add_one (n := 3) (Nat.succ.inj (Nat.succ.inj hlen))
        obtain ⟨k3, l, rfl⟩ := List.exists_cons_of_length_eq_add_one (n := 2) (Nat.succ.inj (Nat.succ.inj (Nat.succ.inj hlen)))
        obtain ⟨k4, l, rfl⟩ := List.exists_cons_of_length_eq_add_one (n := 1) (Nat.succ.inj (Nat.succ.inj (Nat.succ.inj (Nat.succ.inj hlen))))
        obtain ⟨k5, l, rfl⟩ := List.exists_cons_of_length_eq_add_one (n := 0) (Nat.succ.inj (Nat.succ.inj (Nat.succ.inj (Nat.succ.inj (Nat.succ.inj hlen)))))
        have := List.length_eq_zero_iff.mp (Nat.succ.inj (Nat.succ.inj (Nat.succ.inj (Nat.succ.inj (Nat.succ.inj (Nat.succ.inj hlen))))))
        subst this
        obtain rfl : k4 = _ := Option.some.inj h4
        exact ⟨k0, k1, k2, k3, k5, rfl⟩
      obtain ⟨k0, k1, k2, k3, k5, rfl⟩ := hsl
      refine ⟨nm, qn, N, bs, hd, sn, sub, ab, col, dd, k0, k1, k2, k3, k5, _, X _ _ q, ⟨_, es, ep, X _ _ q2, rfl, fun en he => ?_, fun _ => rfl⟩, hni⟩
      have := List.all_eq_true.mp hall en (Array.mem_toList_iff.mpr he)
      split at this
      · rename_i n t hn; exact ⟨n, t, hn⟩
      · cases this
    · cases e
  · cases e
theorem cxok {w : World} {s : Shared} {mg mb : Str → Option Value} {p : Program} {loose : List Str} {mean : ExcName → Option Value} (KX : K.In s.heap) (k : Fk K) (no : ∀ a ∈ tabA, K.lookup a = none) (T : Top p loose mean mg mb s.heap) : CxOk (cxOf w s K) := by
  have X : K.In (hideAll s.heap tabA) := in_hidden KX no
  obtain ⟨oc, od, ep, osl, e3⟩ := obj3 k
  have hmg : ∀ x, nsFind (es3 K) x = mg x := by
    obtain ⟨o, es, ep', e, hd, _, r⟩ := T.g
    have := (KX 3 _ e3).symm.trans e
    cases this
    cases hd
    exact r
  refine ⟨exc_in k X, X, ?_, ⟨mg, ns_hidden T.g (by decide), fun x v h => (hmg x).symm.trans (glob_in k h), fun x h1 h2 h3 => (hmg x).symm.trans (no_clash k h1 h2 h3), fun q hq => ?_⟩, ⟨mb, ns_hidden T.b (by decide), T.builtins⟩, fun q hq => codeHd_of_K X (heads_at k q hq), cls_ok k, cxre KX k no, liball KX k no, ?_⟩
  · obtain ⟨mc, a, b⟩ := T.nolimit
    exact ⟨mc, ns_hidden a (by decide), b⟩
  · obtain ⟨bm, ob, h1, h2, h3, r⟩ := T.bmain
    have h4 : bm = 4 := by
      rw [← hmg, show nsFind (es3 K) "__builtins__" = some (.ref 4) from k.a7] at h1
      cases h1; rfl
    subst h4
    refine ⟨4, ob, h1, h2, by decide, ?_, hideAll_get _ h3 (by decide), r⟩
    revert q
    show ∀ q ∈ tabs1, _
    decide
  · obtain ⟨mc, ⟨o, _, _, e, _⟩, _⟩ := T.nolimit
    exact ⟨o, hideAll_get _ e (by decide)⟩
end
theorem ints_vr {P : Pt} {vals : List Value} {ns : List Int} (i : IntsAre vals ns) : VRs P (ivs ns) vals := by
  induction i with
  | nil => exact .nil
  | cons n t _ ih => exact .cons (.int n t) ih
theorem run_holds {w : World} {s₁ : Shared} {mg mb : Str → Option Value} {p : Program} {loose : List Str} {mean : ExcName → Option Value} {K : Frag} (KX : K.In s₁.heap) (k : Fk K) (no : ∀ a ∈ tabA, K.lookup a = none) (KT : ∀ P ∈ tabA, s₁.heap.get? P = some (tabObj #[]))
    (T : Top p loose mean mg mb s₁.heap) (hg : s₁.gens = #[]) {fa : Addr} (hmg : mg (Str.ofString "law") = some (.ref fa)) {a : Addr} {vals : List Value} {ns : List Int} (hL : s₁.heap.IsList a vals.toArray) (hI : IntsAre vals ns) (hn : ns.length ≤ 63)
    {Q : Value → Shared → Prop} {E : Value → Shared → Prop} (q : ∀ s', OldK s₁.heap s'.heap → s'.os = s₁.os → s'.gens = #[] → Q (.bool true) s') :
    wpAny (model PySem.Challenge.rw_ku0030_02.row.prog w) callerA (call (.ref fa) [.ref a]) Q E s₁ := by
  have KO : CxOk (cxOf w s₁ K) := cxok KX k no T
  have hfa : fa = 253 := by
    obtain ⟨oc, od, ep, osl, e3⟩ := obj3 k
    obtain ⟨o, es, ep', e, hd, _, r⟩ := T.g
    have h1 := (KX 3 _ e3).symm.trans e
    cases h1
    cases hd
    have h2 : nsFind (es3 K) (Str.ofString "law") = some (.ref 253) := glob_in k gl_law
    rw [r, hmg] at h2
    cases h2; rfl
  subst hfa
  obtain ⟨oc, od, fd, osl, F, PD⟩ := fnIn_cx k (w := w) (s := s₁) (fns_lib (a := 253) rfl)
  have hax : a ∉ tabA := fun z => by
    obtain ⟨o, e, c, _⟩ := hL
    rw [KT a z] at e
    cases e
    cases c
  have inT : ∀ q ∈ tabs1, q.2 ∈ tabA := by decide
  let P : Pt := ⟨s₁, fun b => (∃ o, s₁.heap.get? b = some o) ∧ b ∉ tabA⟩
  let m : Hp := fun b => if b ∈ tabA then some (.tab #[]) else none
  have mT : ∀ b, b ∈ tabA → m b = some (.tab #[]) := fun b hb => if_pos hb
  have okm : Okm (cxOf w s₁ K) m P := by
    refine ⟨fun b o e => ?_, fun b i => i.1, fun b ob e => ?_, hg, rfl⟩
    · have hb : b ∉ tabA := fun z => by rw [show (cxOf w s₁ K).B = hideAll s₁.heap tabA from rfl, hideAll_none _ z] at e; cases e
      have e' := of_hideAll _ e
      exact ⟨e', ⟨o, e'⟩, hb⟩
    · by_cases hb : b ∈ tabA
      · rw [mT b hb] at e
        cases e
        exact ⟨fun i => i.2 hb, fun z => by rw [z] at hb; revert hb; decide, _, KT b hb, #[], rfl, trivial⟩
      · exact nos ((if_neg hb).symm.trans e)
  have co : CallOk (cxOf w s₁ K) callerA [] 5 m (fun _ => none) := ⟨KO, rfl, by decide, by decide, rfl, fun env he => absurd he List.not_mem_nil, fun q hq => ⟨#[], mT _ (inT q hq), rfl⟩, fun a ob e => nos e⟩
  have rL : VRs P [.lst (ivs ns)] [.ref a] := .cons (.lst hL ⟨let ⟨o, e, _⟩ := hL; ⟨o, e⟩, hax⟩ (by rw [List.toList_toArray]; exact ints_vr hI)) .nil
  have hb : Body TT (0 + 5) (fnOf 253) [(Str.ofString "script", .lst (ivs ns))] (fun _ => none) fun v _ => v = .bool true := by with_reducible exact law2_ok ns hn
  have hB : ∀ (A : Around) (E : Value → Shared → Prop) (Q : List (Str × Value) → Shared → Prop), (∀ bs h', (∀ b o, P.s.heap.get? b = some o → h'.get? b = some o) → KVR (P.gr h' P.s.toks) [(Str.ofString "script", .lst (ivs ns))] bs → bs.map (·.1) = (fnOf 253).params ++ (fnOf 253).vararg.toList → Q bs { P.s with heap := h' }) → wpAny (model (cxOf w s₁ K).prog (cxOf w s₁ K).w) A (bindArgs fd ⟨[.ref a], []⟩) Q E P.s := fun A E Q q => binds_ok PD rL (by kernel_rfl) q
  refine wpAny_call (codeAny_mono (fn_run (C := cxOf w s₁ K) (n := 5) (P := P) (Q := fun v _ => v = .bool true) (Kk := Q) (E := E) co okm F hB hb fun P' x v H' le okm' dj rx hv => ?_) fun r s' z => z)
  subst hv
  obtain rfl : x = .bool true := rx.inv
  have kept : ∀ b o, s₁.heap.get? b = some o → b ∉ tabA → P'.s.heap.get? b = some o := fun b o e hb => le.keep ⟨⟨o, e⟩, hb⟩ e
  have grown : ∀ b ∈ tabA, isCodeTable s₁.heap b ∧ ∃ more, P'.s.heap.get? b = some (tabObj (#[] ++ more)) := fun b hb => by
    have hp : ∃ p ∈ tabs1, p.2 = b := by revert b; decide
    obtain ⟨p, hp, rfl⟩ := hp
    obtain ⟨o, vs, _, _, _, _, _, _, _, e, hc, hd, h11, _⟩ := codeHd_of_K KX (heads_at k p hp)
    have h0 : rest m (fun _ => none) p.2 = some (.tab #[]) := mT _ hb
    have hj : joinM H' (rest m fun _ => none) p.2 = some (.tab #[]) := by
      unfold joinM
      cases hq : H' p.2 with
      | some ob => exact son (h0.symm.trans (dj _ ob hq))
      | none => exact h0
    obtain ⟨_, _, o', g, more, rfl, _⟩ := okm'.objs _ _ hj
    exact ⟨⟨p.1, o, vs, e, hc, hd, h11⟩, more, g⟩
  refine q P'.s ⟨fun b o e => ?_, fun b o e => ?_⟩ okm'.os okm'.gens
  · by_cases hb : b ∈ tabA
    · obtain ⟨ct, more, e'⟩ := grown b hb
      have e0 := (KT b hb).symm.trans e
      cases e0
      exact .inr (.inl ⟨ct, rfl, #[], more, rfl, e'⟩)
    · exact .inl (kept b o e hb)
  · by_cases hb : b ∈ tabA
    · obtain ⟨_, more, e'⟩ := grown b hb
      exact ⟨_, e'⟩
    · exact ⟨o, kept b o e hb⟩
end
section
open PySem PySem.W PyProof.Rows
theorem said : PySem.Challenge.rw_ku0030_02.wellSaid = true := (congrFun PySem.W.Fast.te9446332074065402090 _).trans (by kernel_rfl)
theorem tgt : PySem.Challenge.rw_ku0030_02.Holds := by
  refine holds_law said fun said => ?_
  refine holds_open left HK.of HK.keeps (fun s e => xl_of s (Bool.and_eq_true_iff.mp e).1) XL.keeps (by rfl) (by rfl) (by rfl) (fun s e => recFacts_of (Bool.and_eq_true_iff.mp e).2) (by rfl) said (by decide +kernel) ⟨rfl, rfl, rfl, rfl, rfl, by decide +kernel⟩ ?hw ?hc
  case hw => w_witness2
  case hc =>
    intro w s₀ s₁ mg mb G Y fa o pm cd doc dV kV ho hd hcd hD hmg hg args vals as hpre hlay hrd hwl hlo
    obtain ⟨K, KX, k, no, KT⟩ := Y
    refine Ground.open G ?_
    intro T B D TE TW
    wrow_args hpre hlay hrd hwl hlo
    refine run_holds KX (fk_of k) no KT T hg hmg (by assumption) (by assumption) (by lia) fun s' ok os gs => ?_
    refine ⟨.inl ⟨.bool true, .bool true, [], rfl, fun _ => rfl, .bool true, ?_, fun _ => ⟨List.nodup_nil, fun a ha => nomatch ha⟩⟩, ok, os, .of_eq gs⟩
    wrow_post
end
end Mine
theorem PySem.Challenge.cw_ku0030_02_holds : PySem.Challenge.rw_ku0030_02.Holds :=
  Mine.tgt
