import PyProof.Rows.All
import Wide.All
import OpenK.AllK
import Wide.FinOn
import KE.BytesK
import KE.KBytesWalk
import KE.KCompText
import KE.KDictList
import KE.KIntText
import KE.KStateW
import KE.KSuper
import KE.KxDecode
import KE.LcSums
import PySem.Sre
import Lean
import PySem.Challenge.RW_ci0013_01
set_option Elab.async false
section
open PySem PySem.W PyProof.Rows
set_option Elab.async false
namespace Mine
set_option maxRecDepth 100000 in
set_option maxHeartbeats 8000000 in
open_top hd for PySem.Challenge.rw_ci0013_01
end Mine
end

section
open PySem PySem.W PyProof.Rows PySem.Calls PySem.Spec
set_option Elab.async false
namespace Mine

theorem toks_setGen (s : Shared) (g : Nat) (x : GenState) : (s.setGen g x).toks = s.toks := rfl

theorem runs_toks {M : Model} {Γ : PySem.Ctx} {p : Pos} {t : Sem Fin} {fs : List Frame} {s : Shared} {e : End} {s' : Shared} (h : Runs M Γ p t fs s e s') : s.toks ≤ s'.toks := by
  induction h with
  | done => exact Nat.le_refl _
  | raise => exact Nat.le_refl _
  | yield => exact Nat.le_refl _
  | fresh _ ih => exact Nat.le_trans (Nat.le_succ _) ih
  | _ => first | assumption | ((try simp only [toks_setGen] at *); omega)

theorem wp_toks {M : Model} {Γ : PySem.Ctx} {α : Type} : ∀ (t : Sem α) (Q : α → Pos → Shared → Prop) (E : Value → Pos → Shared → Prop) (p : Pos) (s : Shared),
    Sem.wp M Γ t (fun a p' s' => s.toks ≤ s'.toks → Q a p' s') (fun e p' s' => s.toks ≤ s'.toks → E e p' s') p s → Sem.wp M Γ t Q E p s := by
  intro t Q E p s h
  refine Sem.wp_mono M Γ t (post := fun a p' s' => s.toks ≤ s'.toks ∧ (s.toks ≤ s'.toks → Q a p' s')) (exc := fun e p' s' => s.toks ≤ s'.toks ∧ (s.toks ≤ s'.toks → E e p' s')) (fun a p' s' h => h.2 h.1) (fun a p' s' h => h.2 h.1) p s ?_
  generalize hQ : (fun a p' s' => s.toks ≤ s'.toks → Q a p' s') = Q' at h
  generalize hE : (fun e p' s' => s.toks ≤ s'.toks → E e p' s') = E' at h
  have key : ∀ (t : Sem α) (p : Pos) (s₂ : Shared), s.toks ≤ s₂.toks → Sem.wp M Γ t Q' E' p s₂ → Sem.wp M Γ t (fun a p' s' => s.toks ≤ s'.toks ∧ Q' a p' s') (fun e p' s' => s.toks ≤ s'.toks ∧ E' e p' s') p s₂ := by
    intro t
    induction t with
    | pure a => intro p s₂ hl h; exact ⟨hl, h⟩
    | raise e => intro p s₂ hl h; exact ⟨hl, h⟩
    | unsupported _ => intro p s₂ hl h; exact h
    | finish _ => intro p s₂ hl h; exact h
    | rule _ k ih => intro p s₂ hl h; exact ih () p s₂ hl h
    | «at» p' k ih => intro p s₂ hl h; exact ih () p' s₂ hl h
    | load a pt k ih => intro p s₂ hl h; obtain ⟨o, ho, h⟩ := h; exact ⟨o, ho, ih o p s₂ hl h⟩
    | update a pt f k ih => intro p s₂ hl h; exact ⟨h.1, ih () p _ hl h.2⟩
    | alloc o k ih => intro p s₂ hl h; exact ih _ p _ hl h
    | loadIfAlive a k ih => intro p s₂ hl h; exact ih _ p s₂ hl h
    | point l k ih => intro p s₂ hl h; exact ih () p s₂ hl h
    | register a k ih => intro p s₂ hl h; exact h
    | fresh k ih => intro p s₂ hl h; exact ih _ p _ (Nat.le_trans hl (Nat.le_succ _)) h
    | ask k ih => intro p s₂ hl h; exact ih _ p s₂ hl h
    | choose src n k ih => intro p s₂ hl h; exact ⟨h.1, ih _ p _ hl h.2⟩
    | os q l k ih => intro p s₂ hl h; exact ih _ p _ hl h
    | call c hd g l k ih =>
      intro p s₂ hl h
      obtain ⟨r, s₃, hr, h⟩ := h
      exact ⟨r, s₃, hr, ih r p s₃ (Nat.le_trans hl (runs_toks hr)) h⟩
    | handled o k ih => intro p s₂ hl h; exact ih _ p s₂ hl h
    | newGen c k ih => intro p s₂ hl h; exact ih _ p _ hl h
    | genState g k ih => intro p s₂ hl h; obtain ⟨st, hst, h⟩ := h; exact ⟨st, hst, ih _ p s₂ hl h⟩
    | resume g r l k ih =>
      intro p s₂ hl h
      obtain ⟨res, s₃, hw, h⟩ := h
      refine ⟨res, s₃, hw, ih res p s₃ (Nat.le_trans hl ?_) h⟩
      unfold Wakes at hw
      split at hw
      · exact hw.elim
      · split at hw
        · obtain ⟨e₁, s₁, hr, _, _, rfl⟩ := hw; exact (by have q := runs_toks hr; exact q)
        · rw [hw.2]; exact Nat.le_refl _
        · rw [hw.2]; exact Nat.le_refl _
      · obtain ⟨e₁, s₁, hr, _, _, rfl⟩ := hw; exact (by have q := runs_toks hr; exact q)
      · rw [hw.2]; exact Nat.le_refl _
      · rw [hw.2]; exact Nat.le_refl _
    | yield v g l k ih => intro p s₂ hl h; exact h
    | stack k ih => intro p s₂ hl h; exact ih _ p s₂ hl h
    | fork c k ih => intro p s₂ hl h; exact h
    | thread k ih => intro p s₂ hl h; exact ih _ p s₂ hl h
    | await a f d l k ih => intro p s₂ hl h; exact h
  have := key t p s (Nat.le_refl _) h
  subst hQ; subst hE
  exact this

theorem wpAny_toks {α : Type} {M : Model} {A : Around} {t : Sem α} {Q : α → Shared → Prop} {E : Value → Shared → Prop} {s : Shared}
    (h : wpAny M A t (fun a s' => s.toks ≤ s'.toks → Q a s') (fun e s' => s.toks ≤ s'.toks → E e s') s) : wpAny M A t Q E s :=
  fun Γ p hΓ => wp_toks t _ _ p s (h Γ p hΓ)

theorem wpCode_toks {M : Model} {Γ : PySem.Ctx} {R : Result → Shared → Prop} {p : Pos} {s : Shared} (h : wpCode M Γ (fun r s' => s.toks ≤ s'.toks → R r s') p s) : wpCode M Γ R p s := by
  obtain ⟨r, s', hr, hR⟩ := h
  exact ⟨r, s', hr, hR (runs_toks hr)⟩
theorem codeAny_toks {M : Model} {A : Around} {c : Code} {R : Result → Shared → Prop} {s : Shared} (h : codeAny M A c (fun r s' => s.toks ≤ s'.toks → R r s') s) : codeAny M A c R s :=
  fun Γ p hc hΓ => wpCode_toks (h Γ p hc hΓ)
end Mine
end

section
open PySem PySem.W PyProof.Rows PySem.Calls PySem.Spec
set_option Elab.async false
set_option maxRecDepth 100000
namespace Mine

abbrev Ret (h₀ : Heap) (L : Addr) (m : Str → Option Value) (news : List (Addr × Obj)) (s : Shared) (Q : Value → Shared → Prop) (R : Tok → Value) : Prop :=
  ∀ (t : Tok) (h' : Heap) (tk' : Nat), s.toks ≤ tk' → Fr h₀ L h' m → News h₀ L h' news → Q (R t) { s with heap := h', toks := tk' }

def SpecN (w : World) (k : Nat) (f : Addr) (P : List (Addr × Obj) → Prop) (vs : List Value) (R : Tok → Value) : Prop :=
  ∀ (p : Program) (loose : List Str) (mean : ExcName → Option Value) (mg mb : Str → Option Value)
    (dp un : Nat) (gd : Option (List Code)) (cn : Str) (cs : Scope) (a : Addr) (ccd : Value) (cl : List (Str × Addr)) (outer : List Env) (A₀ : Around) (base h₀ : Heap) (L : Addr) (m : Str → Option Value) (news : List (Addr × Obj)) (s : Shared)
    (Q E : Value → Shared → Prop),
    Below A₀ base outer h₀ → Fr h₀ L s.heap m → (hd.heap_39 w.params).In h₀ → News h₀ L s.heap news → Top p loose mean mg mb h₀ → cs.kind = .function → P news → dp + k < recursionLimit → un + 10 * k < cLine → 1 ≤ s.toks →
    Ret h₀ L m news s Q R →
    wpAny (model Challenge.rw_ci0013_01.row.prog w) (ktrTop dp un gd cn cs L a ccd cl outer) (call (.ref f) vs) Q E s
abbrev Spec1 (w : World) (k : Nat) (f : Addr) (P : Prop) (vs : List Value) (R : Tok → Value) : Prop := SpecN w k f (fun _ => P) vs R

theorem Ret.end {h₀ h' : Heap} {L : Addr} {m : Str → Option Value} {news : List (Addr × Obj)} {s : Shared} {Q : Value → Shared → Prop} {R : Tok → Value} {tk' : Nat} {v : Value}
    (hret : Ret h₀ L m news s Q R) (hl : s.toks ≤ tk') (F : Fr h₀ L h' m) (N : News h₀ L h' news) (e : ∃ t, v = R t) : Q v { s with heap := h', toks := tk' } := by
  obtain ⟨t, e⟩ := e; subst e; exact hret t h' tk' hl F N

theorem wpAny_pos {α : Type} {M : Model} {A : Around} {E : Value → Shared → Prop} {s : Shared} {c : Prop} [Decidable c] {a b : Sem α} {Q : α → Shared → Prop} (hc : c) (h : wpAny M A a Q E s) : wpAny M A (if c then a else b) Q E s := by rw [if_pos hc]; exact h
theorem wpAny_neg {α : Type} {M : Model} {A : Around} {E : Value → Shared → Prop} {s : Shared} {c : Prop} [Decidable c] {a b : Sem α} {Q : α → Shared → Prop} (hc : ¬ c) (h : wpAny M A b Q E s) : wpAny M A (if c then a else b) Q E s := by rw [if_neg hc]; exact h

/-- replace, the tokens kept -/
theorem replaceT {prog : Program} {w : World} {A : Around} {E : Value → Shared → Prop} {s : Shared} {x y z : Str} {t u v : Nat} {Q : Value → Shared → Prop}
    (hu : 1 ≤ u) (huv : v = u + 1) (hyz : (y == z) = false) (hb : x.length + (x.length + 1) * z.length ≤ 16777216)
    (hq : ∀ t' k, s.toks ≤ k → Q (.str (Txt.replace x y z) t') { s with toks := k }) : wpAny (model prog w) A (call (.builtin "str.replace") [.str x t, .str y u, .str z v]) Q E s :=
  wpAny_toks (SC.replace (show (u : Nat) ≠ 0 by omega) (show (v : Nat) ≠ 0 by omega) (show (u : Nat) ≠ v by omega) hyz hb (fun t' k h => hq t' k h))



/-- an item of a text -/
theorem itemT {prog : Program} {w : World} {A : Around} {E : Value → Shared → Prop} {s : Shared} {value slice : Expr} {x y : Str} {t : Tok} {Q : Value → Shared → Prop} {i : Int} {u : Tok} (hr : fitsSsize i = true) (h1 : -(x.length : Int) ≤ i) (h2 : i < x.length)
    (e : Txt.item x i = y) (h : Q (.str y s.toks) { s with toks := s.toks + 1 })
    (hs : subscripted slice false (.str x t) (.int i u) = operate [.str x t, .int i u] (getItem (.str x t) (.int i u)) := by with_unfolding_all rfl)
    (ht : ∀ r, letTemporaryGo value (.str x t) r = pure () := by intro _; with_unfolding_all rfl) :
    wpAny (model prog w) A (subscriptTail value slice (.str x t) (.int i u)) Q E s := by
  subst e
  exact item_str hr h1 h2 (fun _ => h) hs ht
theorem item_at (x : Str) (i : Nat) (c : Nat) (h : x.cps[i]? = some c) : Txt.item x (i : Int) = ⟨#[c]⟩ := by
  obtain ⟨hi, _⟩ := Array.getElem?_eq_some_iff.mp h
  have e : seqIndex? (i : Int) x.length = some i := by
    unfold seqIndex?
    have hi' : i < x.length := hi
    dsimp only
    rw [if_neg (by omega : ¬ (i : Int) < 0), if_pos (by simp only [Bool.and_eq_true, decide_eq_true_eq]; omega)]
    rfl
  unfold Txt.item Txt.charAt
  rw [e, Option.bind_some, h]
  rfl
theorem allLt_mem {d : Addr} : ∀ {l : List (Addr × Obj)}, AllLt d l → ∀ p ∈ l, p.1 < d
  | [], _, _, h => nomatch h
  | _ :: _, h, _, .head _ => h.1
  | _ :: _, h, _, .tail _ m => allLt_mem h.2 _ m
theorem allLt_ne0 {d : Addr} {l : List (Addr × Obj)} (h : AllLt d l) : ∀ p ∈ l, p.1 ≠ d := fun p hp => Nat.ne_of_lt (allLt_mem h p hp)
theorem allLt_ne1 {d : Addr} {l : List (Addr × Obj)} (h : AllLt d l) : ∀ p ∈ l, p.1 ≠ d + 1 := fun p hp => Nat.ne_of_lt (Nat.lt_succ_of_lt (allLt_mem h p hp))
theorem lt_ne0 {d : Addr} {l : List (Addr × Obj)} (h : ∀ p ∈ l, p.1 < d) : ∀ p ∈ l, p.1 ≠ d := fun p hp => Nat.ne_of_lt (h p hp)
theorem lt_ne1 {d : Addr} {l : List (Addr × Obj)} (h : ∀ p ∈ l, p.1 < d) : ∀ p ∈ l, p.1 ≠ d + 1 := fun p hp => Nat.ne_of_lt (Nat.lt_succ_of_lt (h p hp))
theorem tokGen {α : Type} {M : Model} {A : Around} {E : Value → Shared → Prop} {hp : Heap} {g : Array GenState} {d : Drawn} {T : Nat} {os : OsState} {x : Sem α} {Q : α → Shared → Prop} (h1 : 1 ≤ T)
    (h : ∀ k, 1 ≤ k → wpAny M A x Q E ⟨hp, g, d, k, os⟩) : wpAny M A x Q E ⟨hp, g, d, T, os⟩ := h T h1
end Mine
end

section
set_option Elab.async false
set_option maxRecDepth 100000
namespace Mine
open PySem PySem.Sre

def CODE : Array Nat := #[14, 8, 1, 3, 4294967295, 1, 1, 38, 0, 16, 38, 17, 0, 7, 18, 16, 35, 24, 10, 1, 7, 13, 5, 22, 48, 57, 0, 1, 16, 59, 15, 56, 31, 16, 35, 13, 6, 16, 120, 16, 88, 0, 24, 16, 1, 4294967295, 13, 11, 9, 0, 67043328, 126, 126, 0, 0, 0, 0, 0, 1, 16, 59, 15, 25, 23, 24, 17, 1, 32, 13, 12, 21, 9, 5632, 402653257, 0, 0, 0, 0, 0, 0, 0, 1, 16, 59, 15, 2, 0, 17, 1, 1]

def Ev (n : Nat) (m : M) (P : M → Prop) : Prop := ∃ k, k ≤ n ∧ P (M.runFor k m)

theorem runFor_add (a b : Nat) (m : M) : M.runFor (a + b) m = M.runFor b (M.runFor a m) := by
  induction a generalizing m with
  | zero => rw [Nat.zero_add]; rfl
  | succ a ih =>
    rw [Nat.succ_add]
    show (if m.outcome.isSome then m else M.runFor (a + b) m.step) = M.runFor b (if m.outcome.isSome then m else M.runFor a m.step)
    by_cases h : m.outcome.isSome
    · rw [if_pos h, if_pos h]
      cases b with
      | zero => rfl
      | succ b => show m = if m.outcome.isSome then m else _; rw [if_pos h]
    · rw [if_neg h, if_neg h, ih]

theorem Ev.here {n : Nat} {m : M} {P : M → Prop} (h : P m) : Ev n m P := ⟨0, Nat.zero_le _, h⟩
theorem Ev.step {n : Nat} {m m' : M} {P : M → Prop} (ho : m.outcome = none) (e : m.step = m') (h : Ev n m' P) : Ev (n + 1) m P := by
  obtain ⟨k, hk, hp⟩ := h
  refine ⟨k + 1, Nat.succ_le_succ hk, ?_⟩
  show P (if m.outcome.isSome then m else M.runFor k m.step)
  rw [ho, e]
  exact hp
theorem Ev.mono {n n' : Nat} {m : M} {P : M → Prop} (h : Ev n m P) (hn : n ≤ n') : Ev n' m P := let ⟨k, hk, hp⟩ := h; ⟨k, Nat.le_trans hk hn, hp⟩

/-- the machine, written out -/
abbrev S (T : Array Nat) (lim ls start : Nat) (pc pos handed : Nat) (o : Bool) (marks : Array (Option Nat)) (lm li : Int) (fr : List Sre.Frame) (w : Nat) (ans : Option Bool) (seen : Seen) : M :=
  { code := CODE, text := T, lim := lim, start := start, lastStart := ls, pc := pc, pos := pos, handed := handed, outermost := o, marks := marks, lastmark := lm, lastindex := li, frames := fr, weight := w, answer := ans, seen := seen }

def cls3 (c : Nat) : Bool := !(decide (c < 256) && (CODE.getD (71 + (1 + c / 32)) 0).testBit (c % 32))

theorem acc3 (c : Nat) (seen : Seen) : ∃ seen', accepts CODE 68 c seen = .ok (cls3 c, seen') := by
  have e : accepts CODE 68 c seen = if (decide (c < 256) && (CODE.getD (71 + (1 + c / 32)) 0).testBit (c % 32)) = true then .ok (false, (seen.add 21).add 9) else .ok (true, ((seen.add 21).add 9).add 0) := rfl
  rw [e]
  unfold cls3
  cases (decide (c < 256) && (CODE.getD (71 + (1 + c / 32)) 0).testBit (c % 32)) with
  | true => exact ⟨_, rfl⟩
  | false => exact ⟨_, rfl⟩

section
variable {T : Array Nat} {lim ls start pos handed : Nat} {o : Bool} {marks : Array (Option Nat)} {lm li : Int} {fr : List Sre.Frame} {w n : Nat} {seen : Seen} {P : M → Prop}


theorem step_lit {pc ch : Nat} (hpc : pc < 90) (h0 : CODE.getD pc 0 = 16) (h1 : CODE.getD (pc + 1) 0 = ch) :
    (S T lim ls start pc pos handed o marks lm li fr w none seen).step =
      if pos < lim ∧ T.getD pos 0 = ch then S T lim ls start (pc + 2) (pos + 1) handed o marks lm li fr w none (seen.add 16)
      else S T lim ls start pc pos handed o marks lm li fr w (some false) (seen.add 16) := by
  have e1 : (S T lim ls start pc pos handed o marks lm li fr w none seen).step = (S T lim ls start pc pos handed o marks lm li fr w none seen).exec := by
    show (if pc < 90 then _ else _) = _
    rw [if_pos hpc]
  rw [e1]
  unfold M.exec
  have e2 : (S T lim ls start pc pos handed o marks lm li fr w none seen).word 0 = 16 := h0
  rw [e2]
  have e3 : ops[16]? = some .LITERAL := rfl
  rw [e3]
  dsimp only
  have e4 : accepts CODE pc (T.getD pos 0) (seen.add 16) = .ok (T.getD pos 0 == ch, seen.add 16) := by
    unfold accepts; rw [h0, h1, e3]
  have e5 : itemWidth CODE pc = 2 := by
    unfold itemWidth; rw [h0, e3]
  by_cases hp : pos < lim
  · rw [if_neg (by omega : ¬ pos ≥ lim), e4, e5]
    by_cases hc : T.getD pos 0 = ch
    · rw [if_pos ⟨hp, hc⟩, hc, beq_self_eq_true]
    · rw [if_neg (fun h => hc h.2), beq_eq_false_iff_ne.mpr hc]
      rfl
  · rw [if_pos (by omega : pos ≥ lim), if_neg (fun h => hp h.1)]
    rfl

theorem step_in {pc wd : Nat} {f : Nat → Bool} (hpc : pc < 90) (h0 : CODE.getD pc 0 = 13) (hacc : ∀ c seen, ∃ seen', accepts CODE pc c seen = .ok (f c, seen')) (hw : 1 + CODE.getD (pc + 1) 0 = wd) :
    ∃ seen', (S T lim ls start pc pos handed o marks lm li fr w none seen).step =
      if pos < lim ∧ f (T.getD pos 0) = true then S T lim ls start (pc + wd) (pos + 1) handed o marks lm li fr w none seen'
      else S T lim ls start pc pos handed o marks lm li fr w (some false) seen' := by
  have e1 : (S T lim ls start pc pos handed o marks lm li fr w none seen).step = (S T lim ls start pc pos handed o marks lm li fr w none seen).exec := by
    show (if pc < 90 then _ else _) = _
    rw [if_pos hpc]
  rw [e1]
  unfold M.exec
  have e2 : (S T lim ls start pc pos handed o marks lm li fr w none seen).word 0 = 13 := h0
  rw [e2]
  have e3 : ops[13]? = some .IN := rfl
  rw [e3]
  dsimp only
  obtain ⟨seen', e4⟩ := hacc (T.getD pos 0) (seen.add 13)
  have e5 : itemWidth CODE pc = wd := by
    unfold itemWidth; rw [h0, e3]; exact hw
  by_cases hp : pos < lim
  · refine ⟨seen', ?_⟩
    rw [if_neg (by omega : ¬ pos ≥ lim), e4, e5]
    cases hc : f (T.getD pos 0) with
    | true => rw [if_pos ⟨hp, rfl⟩]
    | false => rw [if_neg (fun h => by cases h.2)]; rfl
  · refine ⟨seen.add 13, ?_⟩
    rw [if_pos (by omega : pos ≥ lim), if_neg (fun h => hp h.1)]
    rfl

abbrev F1 (s : Nat) (o : Bool) : Sre.Frame := { wait := .nextStart, pc := 9, pos := s, outermost := o }
abbrev F2 (alt pos : Nat) (o : Bool) (lm li : Int) : Sre.Frame := { wait := .nextBranch, pc := alt, pos := pos, outermost := o, kept := { lastmark := lm, lastindex := li } }
abbrev F3 (pc pos : Nat) (o : Bool) (c : Int) (lm li : Int) : Sre.Frame := { wait := .giveBack, pc := pc, pos := pos, outermost := o, count := c, kept := { lastmark := lm, lastindex := li } }

theorem step_mark0 :
    (S T lim ls start 11 pos handed o marks (-1) (-1) fr w none seen).step = S T lim ls start 13 pos handed o (marks.setIfInBounds 0 (some pos)) 0 (-1) fr w none (seen.add 17) := rfl
theorem step_mark1 :
    (S T lim ls start 87 pos handed o marks 0 (-1) fr w none seen).step = S T lim ls start 89 pos handed o (marks.setIfInBounds 1 (some pos)) 1 1 fr w none (seen.add 17) := by
  with_unfolding_all rfl
theorem step_branch :
    (S T lim ls start 13 pos handed o marks lm li fr 1 none seen).step = S T lim ls start 15 pos pos o marks lm li (F2 14 pos o lm li :: fr) 2 none (seen.add 7) := rfl
theorem step_jump1 : (S T lim ls start 30 pos handed o marks lm li fr w none seen).step = S T lim ls start 87 pos handed o marks lm li fr w none (seen.add 15) := rfl
theorem step_jump2 : (S T lim ls start 61 pos handed o marks lm li fr w none seen).step = S T lim ls start 87 pos handed o marks lm li fr w none (seen.add 15) := rfl
theorem step_jump3 : (S T lim ls start 84 pos handed o marks lm li fr w none seen).step = S T lim ls start 87 pos handed o marks lm li fr w none (seen.add 15) := rfl
theorem step_success : (S T lim ls start 89 pos handed o marks lm li fr w none seen).step = S T lim ls start 89 pos pos o marks lm li fr w (some true) (seen.add 1) := by
  cases o <;> rfl
theorem step_nextBranch1 {pc p : Nat} {o' : Bool} {lm' li' : Int} :
    (S T lim ls start pc p handed o' marks lm' li' (F2 14 pos o lm li :: fr) 2 (some false) seen).step = S T lim ls start 33 pos pos o marks lm li (F2 32 pos o lm li :: fr) 2 none seen := rfl
theorem step_nextBranch2 {pc p : Nat} {o' : Bool} {lm' li' : Int} :
    (S T lim ls start pc p handed o' marks lm' li' (F2 32 pos o lm li :: fr) 2 (some false) seen).step = S T lim ls start 64 pos pos o marks lm li (F2 63 pos o lm li :: fr) 2 none seen := rfl
theorem step_nextBranch3 {pc p : Nat} {o' : Bool} {lm' li' : Int} :
    (S T lim ls start pc p handed o' marks lm' li' (F2 63 pos o lm li :: fr) 2 (some false) seen).step = S T lim ls start 63 pos handed o marks lm li fr 1 (some false) seen := rfl
theorem step_trueBranch {alt pc p : Nat} {o' : Bool} {lm' li' : Int} :
    (S T lim ls start pc p handed o' marks lm' li' (F2 alt pos o lm li :: fr) 2 (some true) seen).step = S T lim ls start alt pos handed o marks lm' li' fr 1 (some true) seen := rfl
theorem step_trueGive {pc' pc p : Nat} {c : Int} {o' : Bool} {lm' li' : Int} :
    (S T lim ls start pc p handed o' marks lm' li' (F3 pc' pos o c lm li :: fr) 3 (some true) seen).step = S T lim ls start pc' pos handed o marks lm' li' fr 2 (some true) seen := rfl
theorem step_trueStart {pc p s : Nat} {o' : Bool} :
    (S T lim ls start pc p handed o' marks lm li [F1 s o] 1 (some true) seen).step = S T lim ls start 9 s handed o marks lm li [] 0 (some true) seen := rfl
theorem step_done {pc p : Nat} {b : Bool} :
    (S T lim ls start pc p handed o marks lm li [] w (some b) seen).step = { S T lim ls start pc p handed o marks lm li [] w (some b) seen with outcome := some (if b then .matched else .failed) } := rfl
theorem step_falseStart {pc p s : Nat} {o' : Bool} (h : s < ls) :
    (S T lim ls start pc p handed o' marks lm li [F1 s o] 1 (some false) seen).step = S T lim ls (s + 1) 9 (s + 1) (s + 1) false marks (-1) (-1) [F1 (s + 1) false] 1 none seen := by
  show (if s < ls then _ else _) = _
  rw [if_pos h]
  rfl
theorem step_falseEnd {pc p s : Nat} {o' : Bool} (h : ¬ s < ls) :
    (S T lim ls start pc p handed o' marks lm li [F1 s o] 1 (some false) seen).step = S T lim ls start 9 s handed o marks lm li [] 0 (some false) seen := by
  show (if s < ls then _ else _) = _
  rw [if_neg h]
  rfl

def dig (c : Nat) : Bool := decide (48 ≤ c) && decide (c ≤ 57)
def isx (c : Nat) : Bool := c == 120 || c == 88
def hexd (c : Nat) : Bool := decide (c < 256) && (CODE.getD (49 + c / 32) 0).testBit (c % 32)
theorem accDig (c : Nat) (seen : Seen) : ∃ seen', accepts CODE 21 c seen = .ok (dig c, seen') := by
  have e : accepts CODE 21 c seen = if (decide (48 ≤ c) && decide (c ≤ 57)) = true then .ok (true, seen.add 22) else .ok (false, (seen.add 22).add 0) := rfl
  rw [e]; unfold dig
  cases (decide (48 ≤ c) && decide (c ≤ 57)) with
  | true => exact ⟨_, rfl⟩
  | false => exact ⟨_, rfl⟩
theorem accX (c : Nat) (seen : Seen) : ∃ seen', accepts CODE 35 c seen = .ok (isx c, seen') := by
  have e : accepts CODE 35 c seen = if (c == 120) = true then .ok (true, seen.add 16) else if (c == 88) = true then .ok (true, (seen.add 16).add 16) else .ok (false, ((seen.add 16).add 16).add 0) := rfl
  rw [e]; unfold isx
  cases (c == 120) with
  | true => exact ⟨_, rfl⟩
  | false => cases (c == 88) with
    | true => exact ⟨_, rfl⟩
    | false => exact ⟨_, rfl⟩
theorem accHex (c : Nat) (seen : Seen) : ∃ seen', accepts CODE 46 c seen = .ok (hexd c, seen') := by
  have e : accepts CODE 46 c seen = if (decide (c < 256) && (CODE.getD (48 + (1 + c / 32)) 0).testBit (c % 32)) = true then .ok (true, seen.add 9) else .ok (false, (seen.add 9).add 0) := rfl
  have e' : (48 + (1 + c / 32)) = 49 + c / 32 := by omega
  rw [e, e']; unfold hexd
  cases (decide (c < 256) && (CODE.getD (49 + c / 32) 0).testBit (c % 32)) with
  | true => exact ⟨_, rfl⟩
  | false => exact ⟨_, rfl⟩

def cnt (f : Nat → Bool) (T : Array Nat) : (n p : Nat) → Nat
  | 0, _ => 0
  | n + 1, p => if f (T.getD p 0) then cnt f T n (p + 1) + 1 else 0

theorem run_eq {i : Nat} {f : Nat → Bool} (hacc : ∀ c seen, ∃ seen', accepts CODE i c seen = .ok (f c, seen')) (T : Array Nat) :
    ∀ (n p found : Nat) (seen : Seen), ∃ seen', Sre.run CODE T i n p found seen = .ok (found + cnt f T n p, seen')
  | 0, p, found, seen => ⟨seen, rfl⟩
  | n + 1, p, found, seen => by
    obtain ⟨s1, e1⟩ := hacc (T.getD p 0) seen
    show ∃ seen', (do let (yes, seen) ← accepts CODE i (T.getD p 0) seen; if yes then Sre.run CODE T i n (p + 1) (found + 1) seen else pure (found, seen)) = _
    rw [e1]
    show ∃ seen', (if f (T.getD p 0) = true then Sre.run CODE T i n (p + 1) (found + 1) s1 else pure (found, s1)) = .ok (found + (if f (T.getD p 0) = true then cnt f T n (p + 1) + 1 else 0), seen')
    cases f (T.getD p 0) with
    | true =>
      obtain ⟨s2, e2⟩ := run_eq hacc T n (p + 1) (found + 1) s1
      refine ⟨s2, ?_⟩
      rw [if_pos rfl, if_pos rfl, e2]
      congr 2
      omega
    | false => exact ⟨s1, rfl⟩

theorem step_rep {pc skip most : Nat} {f : Nat → Bool} (hpc : pc < 90) (h0 : CODE.getD pc 0 = 24) (h1 : CODE.getD (pc + 1) 0 = skip) (h2 : CODE.getD (pc + 2) 0 = 1) (h3 : CODE.getD (pc + 3) 0 = most)
    (hacc : ∀ c seen, ∃ seen', accepts CODE (pc + 4) c seen = .ok (f c, seen')) :
    ∃ seen', (S T lim ls start pc pos handed o marks lm li fr 2 none seen).step =
      if cnt f T (min most (lim - pos)) pos = 0 then S T lim ls start pc pos handed o marks lm li fr 2 (some false) seen'
      else S T lim ls start (pc + 1 + skip) (pos + cnt f T (min most (lim - pos)) pos) (pos + cnt f T (min most (lim - pos)) pos) o marks lm li (F3 pc (pos + cnt f T (min most (lim - pos)) pos) o (cnt f T (min most (lim - pos)) pos) lm li :: fr) 3 none seen' := by
  have e1 : (S T lim ls start pc pos handed o marks lm li fr 2 none seen).step = (S T lim ls start pc pos handed o marks lm li fr 2 none seen).exec := by
    show (if pc < 90 then _ else _) = _
    rw [if_pos hpc]
  rw [e1]
  unfold M.exec
  have w0 : (S T lim ls start pc pos handed o marks lm li fr 2 none seen).word 0 = 24 := h0
  rw [w0]
  have e3 : ops[24]? = some .REPEAT_ONE := rfl
  rw [e3]
  dsimp only
  have w2 : M.word (S T lim ls start pc pos handed o marks lm li fr 2 none (seen.add 24)) 2 = 1 := h2
  have w3 : M.word (S T lim ls start pc pos handed o marks lm li fr 2 none (seen.add 24)) 3 = most := h3
  rw [w2, w3]
  by_cases hr : ((1 : Nat) : Int) > (lim : Int) - pos
  · refine ⟨seen.add 24, ?_⟩
    rw [if_pos hr]
    have : lim - pos = 0 := by omega
    have hz : cnt f T (min most (lim - pos)) pos = 0 := by rw [this, Nat.min_zero]; rfl
    rw [if_pos hz]
    rfl
  · rw [if_neg hr]
    have e5 : ((lim : Int) - pos).toNat = lim - pos := by omega
    rw [e5]
    obtain ⟨s2, e2⟩ := run_eq hacc T (min most (lim - pos)) pos 0 ((seen.add 24).add (M.word (S T lim ls start pc pos handed o marks lm li fr 2 none (seen.add 24)) 4))
    refine ⟨s2, ?_⟩
    simp only [Bool.false_eq_true, if_false]
    rw [e2]
    dsimp only
    rw [Nat.zero_add]
    by_cases hz : cnt f T (min most (lim - pos)) pos = 0
    · rw [if_pos hz, if_pos (by omega)]
      rfl
    · rw [if_neg hz, if_neg (by omega)]
      have w1 : M.word (S T lim ls start pc (pos + cnt f T (min most (lim - pos)) pos) handed o marks lm li fr 2 none s2) 1 = skip := h1
      show M.attempt _ _ (pc + 1 + M.word _ 1) _ _ = _
      rw [w1]
      rfl

theorem step_give_end {pc p p' pcx : Nat} {c : Int} {lm' li' : Int} {o' : Bool} (h2 : CODE.getD (pc + 2) 0 = 1) (hc : c - 1 < 1) :
    (S T lim ls start pcx p' handed o' marks lm' li' (F3 pc p o c lm li :: fr) 3 (some false) seen).step = S T lim ls start pc p handed o marks lm li fr 2 (some false) seen := by
  show (if c - 1 < ((CODE.getD (pc + 2) 0 : Nat) : Int) then _ else _) = _
  rw [h2, if_pos (by omega)]
  rfl
theorem step_give_more {pc p p' pcx skip : Nat} {c : Int} {lm' li' : Int} {o' : Bool} (h1 : CODE.getD (pc + 1) 0 = skip) (h2 : CODE.getD (pc + 2) 0 = 1) (hc : ¬ c - 1 < 1) :
    (S T lim ls start pcx p' handed o' marks lm' li' (F3 pc p o c lm li :: fr) 3 (some false) seen).step = S T lim ls start (pc + 1 + skip) (p - 1) (p - 1) o marks lm li (F3 pc (p - 1) o (c - 1) lm li :: fr) 3 none seen := by
  show (if c - 1 < ((CODE.getD (pc + 2) 0 : Nat) : Int) then _ else _) = _
  rw [h2, if_neg (by omega)]
  show M.attempt _ _ (pc + 1 + CODE.getD (pc + 1) 0) _ _ = _
  rw [h1]
  rfl
end
end Mine
end

section
set_option Elab.async false
set_option maxRecDepth 100000
namespace Mine
open PySem PySem.Sre

section
variable {T : Array Nat} {lim ls start pos handed : Nat} {o : Bool} {marks : Array (Option Nat)} {lm li : Int} {fr : List Sre.Frame} {w n : Nat} {seen : Seen} {P : M → Prop}

/-- a literal that does not stand there -/
theorem ev_lit_no {pc ch : Nat} (hpc : pc < 90) (h0 : CODE.getD pc 0 = 16) (h1 : CODE.getD (pc + 1) 0 = ch) (hn : ¬ (pos < lim ∧ T.getD pos 0 = ch))
    (h : ∀ seen', Ev n (S T lim ls start pc pos handed o marks lm li fr w (some false) seen') P) : Ev (n + 1) (S T lim ls start pc pos handed o marks lm li fr w none seen) P := by
  refine Ev.step rfl ?_ (h (seen.add 16))
  rw [step_lit hpc h0 h1, if_neg hn]
theorem ev_lit {pc ch : Nat} (hpc : pc < 90) (h0 : CODE.getD pc 0 = 16) (h1 : CODE.getD (pc + 1) 0 = ch) (hn : pos < lim ∧ T.getD pos 0 = ch)
    (h : ∀ seen', Ev n (S T lim ls start (pc + 2) (pos + 1) handed o marks lm li fr w none seen') P) : Ev (n + 1) (S T lim ls start pc pos handed o marks lm li fr w none seen) P := by
  refine Ev.step rfl ?_ (h (seen.add 16))
  rw [step_lit hpc h0 h1, if_pos hn]
theorem ev_in_no {pc wd : Nat} {f : Nat → Bool} (hpc : pc < 90) (h0 : CODE.getD pc 0 = 13) (hacc : ∀ c seen, ∃ seen', accepts CODE pc c seen = .ok (f c, seen')) (hw : 1 + CODE.getD (pc + 1) 0 = wd)
    (hn : ¬ (pos < lim ∧ f (T.getD pos 0) = true))
    (h : ∀ seen', Ev n (S T lim ls start pc pos handed o marks lm li fr w (some false) seen') P) : Ev (n + 1) (S T lim ls start pc pos handed o marks lm li fr w none seen) P := by
  obtain ⟨seen', e⟩ := step_in (T := T) (lim := lim) (ls := ls) (start := start) (pos := pos) (handed := handed) (o := o) (marks := marks) (lm := lm) (li := li) (fr := fr) (w := w) (seen := seen) hpc h0 hacc hw
  refine Ev.step rfl ?_ (h seen')
  rw [e, if_neg hn]
theorem ev_in {pc wd : Nat} {f : Nat → Bool} (hpc : pc < 90) (h0 : CODE.getD pc 0 = 13) (hacc : ∀ c seen, ∃ seen', accepts CODE pc c seen = .ok (f c, seen')) (hw : 1 + CODE.getD (pc + 1) 0 = wd)
    (hn : pos < lim ∧ f (T.getD pos 0) = true)
    (h : ∀ seen', Ev n (S T lim ls start (pc + wd) (pos + 1) handed o marks lm li fr w none seen') P) : Ev (n + 1) (S T lim ls start pc pos handed o marks lm li fr w none seen) P := by
  obtain ⟨seen', e⟩ := step_in (T := T) (lim := lim) (ls := ls) (start := start) (pos := pos) (handed := handed) (o := o) (marks := marks) (lm := lm) (li := li) (fr := fr) (w := w) (seen := seen) hpc h0 hacc hw
  refine Ev.step rfl ?_ (h seen')
  rw [e, if_pos hn]
theorem ev_rep_no {pc most : Nat} {f : Nat → Bool} (skip : Nat) (hpc : pc < 90) (h0 : CODE.getD pc 0 = 24) (h1 : CODE.getD (pc + 1) 0 = skip) (h2 : CODE.getD (pc + 2) 0 = 1) (h3 : CODE.getD (pc + 3) 0 = most)
    (hacc : ∀ c seen, ∃ seen', accepts CODE (pc + 4) c seen = .ok (f c, seen')) (hz : cnt f T (min most (lim - pos)) pos = 0)
    (h : ∀ seen', Ev n (S T lim ls start pc pos handed o marks lm li fr 2 (some false) seen') P) : Ev (n + 1) (S T lim ls start pc pos handed o marks lm li fr 2 none seen) P := by
  obtain ⟨seen', e⟩ := step_rep (T := T) (lim := lim) (ls := ls) (start := start) (pos := pos) (handed := handed) (o := o) (marks := marks) (lm := lm) (li := li) (fr := fr) (seen := seen) hpc h0 h1 h2 h3 hacc
  refine Ev.step rfl ?_ (h seen')
  rw [e, if_pos hz]
theorem ev_rep {pc most k : Nat} {f : Nat → Bool} (skip : Nat) (hpc : pc < 90) (h0 : CODE.getD pc 0 = 24) (h1 : CODE.getD (pc + 1) 0 = skip) (h2 : CODE.getD (pc + 2) 0 = 1) (h3 : CODE.getD (pc + 3) 0 = most)
    (hacc : ∀ c seen, ∃ seen', accepts CODE (pc + 4) c seen = .ok (f c, seen')) (hk : cnt f T (min most (lim - pos)) pos = k) (hz : k ≠ 0)
    (h : ∀ seen', Ev n (S T lim ls start (pc + 1 + skip) (pos + k) (pos + k) o marks lm li (F3 pc (pos + k) o k lm li :: fr) 3 none seen') P) : Ev (n + 1) (S T lim ls start pc pos handed o marks lm li fr 2 none seen) P := by
  subst hk
  obtain ⟨seen', e⟩ := step_rep (T := T) (lim := lim) (ls := ls) (start := start) (pos := pos) (handed := handed) (o := o) (marks := marks) (lm := lm) (li := li) (fr := fr) (seen := seen) hpc h0 h1 h2 h3 hacc
  refine Ev.step rfl ?_ (h seen')
  rw [e, if_neg hz]

/-- the whole matched: from behind the last literal of an alternative (pc 87) -/
theorem ev_matched {alt s : Nat} {pc' p' c' : Nat} (hm : marks.size = 2) (h0 : marks.getD 0 none = some (s + 1))
    (h : ∀ seen', P { S T lim ls s 9 s pos o #[some (s + 1), some pos] 1 1 [] 0 (some true) seen' with outcome := some .matched }) :
    Ev (n + 6) (S T lim ls s 87 pos handed o marks 0 (-1) (F3 pc' p' o c' 0 (-1) :: F2 alt (s + 1) o 0 (-1) :: [F1 s o]) 3 none seen) P := by
  have em : marks.setIfInBounds 1 (some pos) = #[some (s + 1), some pos] := by
    obtain ⟨l⟩ := marks
    match l, hm with
    | [a, b], _ =>
      have : a = some (s + 1) := h0
      subst this
      rfl
  refine Ev.step rfl step_mark1 ?_
  rw [em]
  refine Ev.step rfl step_success ?_
  refine Ev.step rfl step_trueGive ?_
  refine Ev.step rfl step_trueBranch ?_
  refine Ev.step rfl step_trueStart ?_
  refine Ev.step rfl step_done ?_
  exact Ev.here (h _)

/-- all the ways of the third alternative fail where no ';' stands behind what it took -/
theorem ev_give_fail {p : Nat} : ∀ (c : Nat) (p handed n : Nat) (seen : Seen), 1 ≤ c → (∀ j < c, ¬ (p - j < lim ∧ T.getD (p - j) 0 = 59)) →
    (∀ p' handed' seen', Ev n (S T lim ls start 64 p' handed' o marks lm li fr 2 (some false) seen') P) →
    Ev (n + 2 * c) (S T lim ls start 82 p handed o marks lm li (F3 64 p o c lm li :: fr) 3 none seen) P
  | 0, _, _, _, _, h1, _, _ => absurd h1 (by decide)
  | c + 1, p, handed, n, seen, _, hj, h => by
    show Ev ((n + 2 * c + 1) + 1) _ P
    refine ev_lit_no (by decide) rfl rfl (hj 0 (Nat.succ_pos _)) fun seen' => ?_
    by_cases hc : c = 0
    · subst hc
      refine Ev.step rfl (step_give_end rfl (by decide)) ?_
      exact h _ _ _
    · refine Ev.step rfl (step_give_more (skip := 17) rfl rfl (by omega)) ?_
      have e : (((c + 1 : Nat) : Int) - 1) = (c : Nat) := by omega
      rw [e]
      exact ev_give_fail (p := p) c (p - 1) (p - 1) n seen' (by omega) (fun j hj' => by
        have := hj (j + 1) (by omega)
        rw [show p - (j + 1) = p - 1 - j by omega] at this
        exact this) h
end
end Mine
end

section
set_option Elab.async false
set_option maxRecDepth 100000
namespace Mine
open PySem PySem.Sre

theorem cnt_mem {f : Nat → Bool} {T : Array Nat} : ∀ (n p j : Nat), j < cnt f T n p → f (T.getD (p + j) 0) = true
  | 0, _, _, h => absurd h (Nat.not_lt_zero _)
  | n + 1, p, j, h => by
    unfold cnt at h
    split at h
    · rename_i hf
      cases j with
      | zero => exact hf
      | succ j =>
        have := cnt_mem (f := f) (T := T) n (p + 1) j (by omega)
        rw [show p + (j + 1) = p + 1 + j by omega]
        exact this
    · exact absurd h (Nat.not_lt_zero _)
theorem cnt_le {f : Nat → Bool} {T : Array Nat} : ∀ (n p : Nat), cnt f T n p ≤ n
  | 0, _ => Nat.le_refl _
  | n + 1, p => by
    unfold cnt
    split
    · have := cnt_le (f := f) (T := T) n (p + 1); omega
    · omega

section
variable {T : Array Nat} {lim ls s : Nat} {o : Bool} {marks : Array (Option Nat)} {n : Nat} {seen : Seen} {P : M → Prop}

abbrev FailK (T : Array Nat) (lim ls s : Nat) (o : Bool) (n : Nat) (P : M → Prop) : Prop :=
  ∀ (pc p h : Nat) (marks : Array (Option Nat)) (lm li : Int) (seen : Seen), marks.size = 2 → Ev n (S T lim ls s pc p h o marks lm li [F1 s o] 1 (some false) seen) P
abbrev OkK (T : Array Nat) (lim ls s e : Nat) (o : Bool) (P : M → Prop) : Prop :=
  ∀ seen', P { S T lim ls s 9 s e o #[some (s + 1), some e] 1 1 [] 0 (some true) seen' with outcome := some .matched }

/-- no '&' here -/
theorem at_other (hm : marks.size = 2) (hn : ¬ (s < lim ∧ T.getD s 0 = 38)) (hF : FailK T lim ls s o n P) :
    Ev (n + 1) (S T lim ls s 9 s s o marks (-1) (-1) [F1 s o] 1 none seen) P :=
  ev_lit_no (by decide) rfl rfl hn fun _ => hF _ _ _ _ _ _ _ hm

/-- '&' and what the branch finds -/
theorem at_amp (hm : marks.size = 2) (hs : s < lim ∧ T.getD s 0 = 38)
    (h : ∀ (marks' : Array (Option Nat)) (seen' : Seen), marks'.size = 2 → marks'.getD 0 none = some (s + 1) → Ev n (S T lim ls s 15 (s + 1) (s + 1) o marks' 0 (-1) (F2 14 (s + 1) o 0 (-1) :: [F1 s o]) 2 none seen') P) :
    Ev (n + 3) (S T lim ls s 9 s s o marks (-1) (-1) [F1 s o] 1 none seen) P := by
  refine ev_lit (by decide) rfl rfl hs fun seen' => ?_
  refine Ev.step rfl step_mark0 ?_
  refine Ev.step rfl step_branch ?_
  refine h _ _ (by rw [Array.size_setIfInBounds]; exact hm) ?_
  obtain ⟨l⟩ := marks
  match l, hm with
  | [a, b], _ => rfl

/-- the third alternative -/
theorem alt3 {h0 : Nat} (hm : marks.size = 2) (hm0 : marks.getD 0 none = some (s + 1)) (k : Nat) (hk : cnt cls3 T (min 32 (lim - (s + 1))) (s + 1) = k)
    (hok : k ≠ 0 ∧ s + 1 + k < lim ∧ T.getD (s + 1 + k) 0 = 59 → OkK T lim ls s (s + 1 + k + 1) o P)
    (hno : ¬ (k ≠ 0 ∧ s + 1 + k < lim ∧ T.getD (s + 1 + k) 0 = 59) → FailK T lim ls s o n P) :
    Ev (n + 70) (S T lim ls s 64 (s + 1) h0 o marks 0 (-1) (F2 63 (s + 1) o 0 (-1) :: [F1 s o]) 2 none seen) P := by
  by_cases hz : k = 0
  · refine Ev.mono (n := n + 1 + 1) ?_ (by omega)
    refine ev_rep_no 17 (by decide) rfl rfl rfl rfl acc3 (hk.trans hz) fun seen' => ?_
    refine Ev.step rfl step_nextBranch3 ?_
    exact hno (fun h => h.1 hz) _ _ _ _ _ _ _ hm
  · have hk32 : k ≤ 32 := by have := cnt_le (f := cls3) (T := T) (min 32 (lim - (s + 1))) (s + 1); omega
    by_cases h59 : s + 1 + k < lim ∧ T.getD (s + 1 + k) 0 = 59
    · refine Ev.mono (n := (n + 6) + 1 + 1 + 1) ?_ (by omega)
      refine ev_rep 17 (by decide) rfl rfl rfl rfl acc3 hk hz fun seen' => ?_
      refine ev_lit (by decide) rfl rfl h59 fun seen' => ?_
      refine Ev.step rfl step_jump3 ?_
      exact ev_matched hm hm0 (hok ⟨hz, h59⟩)
    · refine Ev.mono (n := ((n + 1) + 2 * k) + 1) ?_ (by omega)
      refine ev_rep 17 (by decide) rfl rfl rfl rfl acc3 hk hz fun seen' => ?_
      refine ev_give_fail (p := 0) k _ _ _ _ (by omega) (fun j hj => ?_) fun p' h' seen' => ?_
      · intro hc
        cases j with
        | zero => exact h59 hc
        | succ j =>
          have := cnt_mem (f := cls3) (T := T) (min 32 (lim - (s + 1))) (s + 1) (k - (j + 1)) (by omega)
          rw [show s + 1 + (k - (j + 1)) = s + 1 + k - (j + 1) by omega, hc.2] at this
          exact absurd this (by decide)
      · refine Ev.step rfl step_nextBranch3 ?_
        exact hno (fun h => h59 h.2) _ _ _ _ _ _ _ hm

/-- '&' without '#' behind -/
theorem amp_name (hm : marks.size = 2) (hs : s < lim ∧ T.getD s 0 = 38) (h35 : ¬ (s + 1 < lim ∧ T.getD (s + 1) 0 = 35)) (k : Nat) (hk : cnt cls3 T (min 32 (lim - (s + 1))) (s + 1) = k)
    (hok : k ≠ 0 ∧ s + 1 + k < lim ∧ T.getD (s + 1 + k) 0 = 59 → OkK T lim ls s (s + 1 + k + 1) o P)
    (hno : ¬ (k ≠ 0 ∧ s + 1 + k < lim ∧ T.getD (s + 1 + k) 0 = 59) → FailK T lim ls s o n P) :
    Ev (n + 80) (S T lim ls s 9 s s o marks (-1) (-1) [F1 s o] 1 none seen) P := by
  refine Ev.mono (n := (n + 70 + 1 + 1 + 1 + 1) + 3) ?_ (by omega)
  refine at_amp hm hs fun marks' seen' hm' hm0 => ?_
  refine ev_lit_no (by decide) rfl rfl h35 fun seen' => ?_
  refine Ev.step rfl step_nextBranch1 ?_
  refine ev_lit_no (by decide) rfl rfl h35 fun seen' => ?_
  refine Ev.step rfl step_nextBranch2 ?_
  exact alt3 hm' hm0 k hk hok hno

/-- '&#' with neither a figure nor an x behind -/
theorem amp_hash (hm : marks.size = 2) (hs : s < lim ∧ T.getD s 0 = 38) (h35 : s + 1 < lim ∧ T.getD (s + 1) 0 = 35) (hd : dig (T.getD (s + 2) 0) = false) (hx : isx (T.getD (s + 2) 0) = false)
    (hno : FailK T lim ls s o n P) :
    Ev (n + 80) (S T lim ls s 9 s s o marks (-1) (-1) [F1 s o] 1 none seen) P := by
  refine Ev.mono (n := (n + 70 + 1 + 1 + 1 + 1 + 1 + 1) + 3) ?_ (by omega)
  refine at_amp hm hs fun marks' seen' hm' hm0 => ?_
  refine ev_lit (by decide) rfl rfl h35 fun seen' => ?_
  have hz : ∀ m, cnt dig T m (s + 1 + 1) = 0 := by
    intro m
    cases m with
    | zero => rfl
    | succ m => unfold cnt; rw [show s + 1 + 1 = s + 2 from rfl, hd]; rfl
  refine ev_rep_no 10 (by decide) rfl rfl rfl rfl accDig (hz _) fun seen' => ?_
  refine Ev.step rfl step_nextBranch1 ?_
  refine ev_lit (by decide) rfl rfl h35 fun seen' => ?_
  refine ev_in_no (wd := 7) (f := isx) (by decide) rfl accX rfl (fun h => ?_) fun seen' => ?_
  · rw [show s + 1 + 1 = s + 2 from rfl, hx] at h; exact absurd h.2 (by decide)
  refine Ev.step rfl step_nextBranch2 ?_
  refine alt3 hm' hm0 0 ?_ (fun h => absurd rfl h.1) (fun _ => hno)
  cases (min 32 (lim - (s + 1))) with
  | zero => rfl
  | succ m => unfold cnt; rw [h35.2]; rfl

/-- '&#65;' -/
theorem amp_dec (hm : marks.size = 2) (hs : s + 4 < lim) (h0 : T.getD s 0 = 38) (h1 : T.getD (s + 1) 0 = 35) (h2 : T.getD (s + 2) 0 = 54) (h3 : T.getD (s + 3) 0 = 53) (h4 : T.getD (s + 4) 0 = 59)
    (hok : OkK T lim ls s (s + 5) o P) :
    Ev (n + 80) (S T lim ls s 9 s s o marks (-1) (-1) [F1 s o] 1 none seen) P := by
  refine Ev.mono (n := (n + 6 + 1 + 1 + 1 + 1) + 3) ?_ (by omega)
  refine at_amp hm ⟨by omega, h0⟩ fun marks' seen' hm' hm0 => ?_
  refine ev_lit (by decide) rfl rfl ⟨by omega, h1⟩ fun seen' => ?_
  have hk : cnt dig T (min 7 (lim - (s + 2))) (s + 2) = 2 := by
    obtain ⟨m, e⟩ : ∃ m, min 7 (lim - (s + 2)) = m + 3 := ⟨min 7 (lim - (s + 2)) - 3, by omega⟩
    rw [e]
    unfold cnt
    rw [h2]
    unfold cnt
    rw [show s + 2 + 1 = s + 3 from rfl, h3]
    unfold cnt
    rw [show s + 3 + 1 = s + 4 from rfl, h4]
    rfl
  refine ev_rep 10 (by decide) rfl rfl rfl rfl accDig hk (by decide) fun seen' => ?_
  refine ev_lit (by decide) rfl rfl ⟨by omega, h4⟩ fun seen' => ?_
  refine Ev.step rfl step_jump1 ?_
  exact ev_matched hm' hm0 hok

/-- '&#x3c;' -/
theorem amp_hex (hm : marks.size = 2) (hs : s + 5 < lim) (h0 : T.getD s 0 = 38) (h1 : T.getD (s + 1) 0 = 35) (h2 : T.getD (s + 2) 0 = 120) (h3 : T.getD (s + 3) 0 = 51) (h4 : T.getD (s + 4) 0 = 99) (h5 : T.getD (s + 5) 0 = 59)
    (hok : OkK T lim ls s (s + 6) o P) :
    Ev (n + 80) (S T lim ls s 9 s s o marks (-1) (-1) [F1 s o] 1 none seen) P := by
  refine Ev.mono (n := (n + 6 + 1 + 1 + 1 + 1 + 1 + 1 + 1 + 1) + 3) ?_ (by omega)
  refine at_amp hm ⟨by omega, h0⟩ fun marks' seen' hm' hm0 => ?_
  refine ev_lit (by decide) rfl rfl ⟨by omega, h1⟩ fun seen' => ?_
  have hz : ∀ m, cnt dig T m (s + 1 + 1) = 0 := by
    intro m
    cases m with
    | zero => rfl
    | succ m => unfold cnt; rw [show s + 1 + 1 = s + 2 from rfl, h2]; rfl
  refine ev_rep_no 10 (by decide) rfl rfl rfl rfl accDig (hz _) fun seen' => ?_
  refine Ev.step rfl step_nextBranch1 ?_
  refine ev_lit (by decide) rfl rfl ⟨by omega, h1⟩ fun seen' => ?_
  refine ev_in (wd := 7) (f := isx) (by decide) rfl accX rfl ⟨by omega, by rw [show s + 1 + 1 = s + 2 from rfl, h2]; rfl⟩ fun seen' => ?_
  have hk : cnt hexd T (min 4294967295 (lim - (s + 3))) (s + 3) = 2 := by
    obtain ⟨m, e⟩ : ∃ m, min 4294967295 (lim - (s + 3)) = m + 3 := ⟨min 4294967295 (lim - (s + 3)) - 3, by omega⟩
    rw [e]
    unfold cnt
    rw [h3]
    unfold cnt
    rw [show s + 3 + 1 = s + 4 from rfl, h4]
    unfold cnt
    rw [show s + 4 + 1 = s + 5 from rfl, h5]
    rfl
  refine ev_rep 16 (by decide) rfl rfl rfl rfl accHex hk (by decide) fun seen' => ?_
  refine ev_lit (by decide) rfl rfl ⟨by omega, h5⟩ fun seen' => ?_
  refine Ev.step rfl step_jump2 ?_
  exact ev_matched hm' hm0 hok
end
end Mine
end

section
set_option Elab.async false
set_option maxRecDepth 100000
namespace Mine
open PySem PySem.Sre

def runL (f : Nat → Bool) : Nat → List Nat → Nat
  | 0, _ => 0
  | _ + 1, [] => 0
  | n + 1, c :: r => if f c then runL f n r + 1 else 0

def nameLen : List Nat → Option Nat
  | [] => none
  | c :: r =>
    if c = 35 then (if r.take 3 = [54, 53, 59] then some 4 else if r.take 4 = [120, 51, 99, 59] then some 5 else none)
    else if runL cls3 32 (c :: r) ≠ 0 ∧ (c :: r)[runL cls3 32 (c :: r)]? = some 59 then some (runL cls3 32 (c :: r) + 1) else none

def findM : List Nat → Option (Nat × Nat)
  | [] => none
  | c :: r => if c = 38 then (match nameLen r with | some k => some (0, k) | none => (findM r).map fun x => (x.1 + 1, x.2)) else (findM r).map fun x => (x.1 + 1, x.2)

def HashOk (r : List Nat) : Prop := ∀ r', r = 35 :: r' → r'.take 3 = [54, 53, 59] ∨ r'.take 4 = [120, 51, 99, 59] ∨ ∀ x r'', r' = x :: r'' → dig x = false ∧ isx x = false
def Fine : List Nat → Prop
  | [] => True
  | c :: r => Fine r ∧ (c = 38 → HashOk r)

theorem drop_cons {T : Array Nat} {s c : Nat} {r : List Nat} (h : T.toList.drop s = c :: r) : s < T.size ∧ T.getD s 0 = c ∧ T.toList.drop (s + 1) = r := by
  have hl : s < T.toList.length := by
    rcases Nat.lt_or_ge s T.toList.length with q | q
    · exact q
    · rw [List.drop_eq_nil_of_le q] at h; cases h
  rw [List.drop_eq_getElem_cons hl] at h
  obtain ⟨h1, h2⟩ := List.cons.inj h
  have hs : s < T.size := by simpa using hl
  refine ⟨hs, ?_, h2⟩
  rw [Array.getD_eq_getD_getElem?, Array.getElem?_eq_getElem hs]
  simpa using h1
theorem drop_nil {T : Array Nat} {s : Nat} (h : T.toList.drop s = []) : T.size ≤ s := by
  have := List.drop_eq_nil_iff.mp h
  simpa using this

theorem cnt_eq {f : Nat → Bool} {T : Array Nat} : ∀ (n : Nat) (l : List Nat) (p : Nat), T.toList.drop p = l → cnt f T (min n (T.size - p)) p = runL f n l
  | 0, _, _, _ => by rw [Nat.zero_min]; rfl
  | n + 1, [], p, h => by
    have := drop_nil h
    rw [show T.size - p = 0 by omega, Nat.min_zero]; rfl
  | n + 1, c :: r, p, h => by
    obtain ⟨h1, h2, h3⟩ := drop_cons h
    rw [show min (n + 1) (T.size - p) = min n (T.size - (p + 1)) + 1 by omega]
    unfold cnt runL
    rw [h2, cnt_eq n r (p + 1) h3]
theorem runL_le {f : Nat → Bool} : ∀ (n : Nat) (l : List Nat), runL f n l ≤ l.length
  | 0, _ => Nat.zero_le _
  | _ + 1, [] => Nat.le_refl _
  | n + 1, c :: r => by
    unfold runL
    split
    · have := runL_le (f := f) n r; rw [List.length_cons]; omega
    · exact Nat.zero_le _

theorem get_drop {T : Array Nat} {p j : Nat} {l : List Nat} (h : T.toList.drop p = l) (c : Nat) : (p + j < T.size ∧ T.getD (p + j) 0 = c) ↔ l[j]? = some c := by
  subst h
  rw [List.getElem?_drop]
  constructor
  · rintro ⟨h1, h2⟩
    rw [Array.getD_eq_getD_getElem?, Array.getElem?_eq_getElem h1] at h2
    rw [List.getElem?_eq_getElem (by simpa using h1)]
    simpa using h2
  · intro h
    obtain ⟨h1, h2⟩ := List.getElem?_eq_some_iff.mp h
    have h1' : p + j < T.size := by simpa using h1
    refine ⟨h1', ?_⟩
    rw [Array.getD_eq_getD_getElem?, Array.getElem?_eq_getElem h1']
    simpa using h2

theorem nameLen_cons (c : Nat) (r : List Nat) : nameLen (c :: r) = if c = 35 then (if r.take 3 = [54, 53, 59] then some 4 else if r.take 4 = [120, 51, 99, 59] then some 5 else none)
    else if runL cls3 32 (c :: r) ≠ 0 ∧ (c :: r)[runL cls3 32 (c :: r)]? = some 59 then some (runL cls3 32 (c :: r) + 1) else none := by rw [nameLen]
theorem findM_cons (c : Nat) (r : List Nat) : findM (c :: r) = if c = 38 then (match nameLen r with | some k => some (0, k) | none => (findM r).map fun x => (x.1 + 1, x.2)) else (findM r).map fun x => (x.1 + 1, x.2) := by rw [findM]
theorem nameLen_le {r : List Nat} {k : Nat} (h : nameLen r = some k) : 2 ≤ k ∧ k ≤ r.length := by
  cases r with
  | nil => cases h
  | cons c r =>
    rw [nameLen_cons] at h
    split at h
    · split at h
      · rename_i h3
        cases h
        have := congrArg List.length h3
        rw [List.length_take] at this
        simp only [List.length_cons, List.length_nil] at this ⊢
        omega
      · split at h
        · rename_i h3
          cases h
          have := congrArg List.length h3
          rw [List.length_take] at this
          simp only [List.length_cons, List.length_nil] at this ⊢
          omega
        · cases h
    · split at h
      · rename_i h3
        cases h
        obtain ⟨h4, _⟩ := List.getElem?_eq_some_iff.mp h3.2
        omega
      · cases h
theorem findM_le : ∀ {l : List Nat} {j k : Nat}, findM l = some (j, k) → 2 ≤ k ∧ j + 1 + k ≤ l.length
  | c :: r, j, k, h => by
    rw [findM_cons] at h
    have rest : (findM r).map (fun x => (x.1 + 1, x.2)) = some (j, k) → 2 ≤ k ∧ j + 1 + k ≤ (c :: r).length := by
      intro h
      obtain ⟨⟨j', k'⟩, e, h⟩ := Option.map_eq_some_iff.mp h
      cases h
      have := findM_le e
      rw [List.length_cons]; dsimp only; omega
    split at h
    · split at h
      · rename_i hn
        cases h
        have := nameLen_le hn
        rw [List.length_cons]; omega
      · exact rest h
    · exact rest h

section
variable {T : Array Nat} {P : M → Prop}

theorem at_fail {s n : Nat} {o : Bool} {l : List Nat} (hl : T.toList.drop s = l) (hno : l = [] → ∀ m : M, m.outcome = some .failed → P m)
    (hgo : ∀ c r, l = c :: r → ∀ (marks : Array (Option Nat)) (seen : Seen), marks.size = 2 → Ev n (S T T.size T.size (s + 1) 9 (s + 1) (s + 1) false marks (-1) (-1) [F1 (s + 1) false] 1 none seen) P) :
    FailK T T.size T.size s o (n + 3) P := by
  intro pc p h marks lm li seen hm
  cases l with
  | nil =>
    have := drop_nil hl
    refine Ev.mono (n := 0 + 1 + 1) ?_ (by omega)
    refine Ev.step rfl (step_falseEnd (by omega)) ?_
    refine Ev.step rfl step_done ?_
    exact Ev.here (hno rfl _ rfl)
  | cons c r =>
    have := drop_cons hl
    refine Ev.mono (n := n + 1) ?_ (by omega)
    refine Ev.step rfl (step_falseStart this.1) ?_
    exact hgo c r rfl _ _ hm

theorem search_from : ∀ (l : List Nat) (s : Nat) (o : Bool) (marks : Array (Option Nat)) (seen : Seen), T.toList.drop s = l → Fine l → marks.size = 2 →
    (findM l = none → ∀ m : M, m.outcome = some .failed → P m) →
    (∀ j k, findM l = some (j, k) → ∀ o, OkK T T.size T.size (s + j) (s + j + 1 + k) o P) →
    Ev (100 * (l.length + 1)) (S T T.size T.size s 9 s s o marks (-1) (-1) [F1 s o] 1 none seen) P
  | [], s, o, marks, seen, hl, _, hm, hno, _ => by
    have := drop_nil hl
    refine Ev.mono (n := 0 + 3 + 1) ?_ (by decide)
    refine at_other hm (by omega) ?_
    exact at_fail hl (fun _ => hno rfl) (fun c r e => by cases e)
  | c :: r, s, o, marks, seen, hl, hf, hm, hno, hok => by
    obtain ⟨h1, h2, h3⟩ := drop_cons hl
    -- the rest
    have rest : (c = 38 → nameLen r = none) → FailK T T.size T.size s o (100 * (r.length + 1) + 3) P := by
      intro hc
      have e : findM (c :: r) = (findM r).map fun x => (x.1 + 1, x.2) := by
        rw [findM_cons]
        by_cases h38 : c = 38
        · rw [if_pos h38, hc h38]
        · rw [if_neg h38]
      refine at_fail hl (fun e => by cases e) ?_
      intro c' r' e' marks' seen' hm'
      cases e'
      refine search_from r (s + 1) false marks' seen' h3 hf.1 hm' (fun h => hno (by rw [e, h]; rfl)) ?_
      intro j k hj o'
      have := hok (j + 1) k (by rw [e, hj]; rfl) o'
      rw [show s + (j + 1) = s + 1 + j by omega] at this
      exact this
    by_cases hc : c = 38
    · subst hc
      refine Ev.mono (n := (100 * (r.length + 1) + 3) + 80) ?_ (by rw [List.length_cons]; omega)
      have ok0 : ∀ k, nameLen r = some k → OkK T T.size T.size s (s + 1 + k) o P := by
        intro k hk
        have := hok 0 k (by rw [findM_cons, if_pos rfl, hk]) o
        rw [Nat.add_zero] at this
        exact this
      cases r with
      | nil =>
        have hd := drop_nil h3
        refine amp_name hm ⟨h1, h2⟩ (by omega) 0 (by rw [show T.size - (s + 1) = 0 by omega]; rfl) (fun h => absurd rfl h.1) fun _ => rest fun _ => rfl
      | cons d r =>
        obtain ⟨g1, g2, g3⟩ := drop_cons h3
        by_cases hd : d = 35
        · subst hd
          have hh : nameLen (35 :: r) = if r.take 3 = [54, 53, 59] then some 4 else if r.take 4 = [120, 51, 99, 59] then some 5 else none := by
            rw [nameLen_cons, if_pos rfl]
          have gt : ∀ j x, r[j]? = some x → s + 2 + j < T.size ∧ T.getD (s + 2 + j) 0 = x := fun j x => (get_drop g3 x).mpr
          by_cases ha : r.take 3 = [54, 53, 59]
          · rw [if_pos ha] at hh
            have q : ∀ j, j < 3 → r[j]? = [54, 53, 59][j]? := fun j hj => by rw [← ha, List.getElem?_take, if_pos hj]
            have a0 := gt 0 54 (q 0 (by decide))
            have a1 := gt 1 53 (q 1 (by decide))
            have a2 := gt 2 59 (q 2 (by decide))
            exact amp_dec hm (by have := a2.1; omega) h2 g2 a0.2 a1.2 a2.2 (ok0 4 hh)
          · rw [if_neg ha] at hh
            by_cases hb : r.take 4 = [120, 51, 99, 59]
            · rw [if_pos hb] at hh
              have q : ∀ j, j < 4 → r[j]? = [120, 51, 99, 59][j]? := fun j hj => by rw [← hb, List.getElem?_take, if_pos hj]
              have a0 := gt 0 120 (q 0 (by decide))
              have a1 := gt 1 51 (q 1 (by decide))
              have a2 := gt 2 99 (q 2 (by decide))
              have a3 := gt 3 59 (q 3 (by decide))
              exact amp_hex hm (by have := a3.1; omega) h2 g2 a0.2 a1.2 a2.2 a3.2 (ok0 5 hh)
            · rw [if_neg hb] at hh
              have hx : dig (T.getD (s + 2) 0) = false ∧ isx (T.getD (s + 2) 0) = false := by
                rcases (hf.2 rfl) r rfl with z | z | z
                · exact absurd z ha
                · exact absurd z hb
                · cases r with
                  | nil =>
                    have := drop_nil g3
                    rw [Array.getD_eq_getD_getElem?, Array.getElem?_eq_none (by omega)]
                    exact ⟨rfl, rfl⟩
                  | cons x r =>
                    have := z x r rfl
                    rw [(drop_cons g3).2.1]
                    exact this
              exact amp_hash hm ⟨h1, h2⟩ ⟨g1, g2⟩ hx.1 hx.2 (rest fun _ => hh)
        · have hk := cnt_eq (f := cls3) (T := T) 32 (d :: r) (s + 1) h3
          have gt := get_drop (j := runL cls3 32 (d :: r)) h3 59
          have hh : nameLen (d :: r) = if runL cls3 32 (d :: r) ≠ 0 ∧ (d :: r)[runL cls3 32 (d :: r)]? = some 59 then some (runL cls3 32 (d :: r) + 1) else none := by
            rw [nameLen_cons, if_neg hd]
          refine amp_name hm ⟨h1, h2⟩ (fun h => hd (g2.symm.trans h.2)) _ hk (fun h => ?_) fun h => ?_
          · rw [if_pos ⟨h.1, gt.mp h.2⟩] at hh
            exact ok0 _ hh
          · rw [if_neg (fun q => h ⟨q.1, gt.mpr q.2⟩)] at hh
            exact rest fun _ => hh
    · refine Ev.mono (n := (100 * (r.length + 1) + 3) + 1) ?_ (by rw [List.length_cons]; omega)
      exact at_other hm (fun h => hc (h2.symm.trans h.2)) (rest fun h => absurd h hc)
end

theorem search_spec {T : Array Nat} {s : Nat} {P : M → Prop} (hs : s ≤ T.size) (hf : Fine (T.toList.drop s))
    (hno : findM (T.toList.drop s) = none → ∀ m : M, m.outcome = some .failed → P m)
    (hok : ∀ j k, findM (T.toList.drop s) = some (j, k) → ∀ m : M, m.outcome = some .matched → m.start = s + j → m.handed = s + j + 1 + k → m.marks = #[some (s + j + 1), some (s + j + 1 + k)] → m.lastmark = 1 → m.lastindex = 1 → P m) :
    Ev (100 * (T.size + 1)) (forSearch CODE T 1 s T.size false) P := by
  have hlen : (T.toList.drop s).length = T.size - s := by rw [List.length_drop]; simp
  by_cases h3 : T.size - s < 3
  · have e : findM (T.toList.drop s) = none := by
      cases h : findM (T.toList.drop s) with
      | none => rfl
      | some x =>
        obtain ⟨j, k⟩ := x
        have := findM_le h
        omega
    have em : (forSearch CODE T 1 s T.size false).outcome = none ∧ (forSearch CODE T 1 s T.size false).step.outcome = some .failed := by
      unfold forSearch
      rw [if_pos (by
        show (decide (s > T.size) || decide (T.size - s < 3)) = true
        simp [h3])]
      exact ⟨rfl, rfl⟩
    refine Ev.mono (n := 0 + 1) ?_ (by omega)
    refine Ev.step em.1 rfl ?_
    exact Ev.here (hno e _ em.2)
  · have em : forSearch CODE T 1 s T.size false = S T T.size T.size s 9 s s true (Array.replicate 2 none) (-1) (-1) [F1 s true] 1 none (({} : Seen).add 14) := by
      unfold forSearch
      rw [if_neg (by
        show ¬ (decide (s > T.size) || decide (T.size - s < 3)) = true
        simp; omega)]
      rfl
    rw [em]
    refine Ev.mono (search_from (T.toList.drop s) s true _ _ rfl hf rfl hno ?_) (by omega)
    intro j k hj o seen'
    exact hok j k hj _ rfl rfl rfl rfl rfl rfl
end Mine
end

section
set_option Elab.async false
namespace Mine
/-- what a reference stands for; the name bears its ';' -/
def replL (n : List Nat) : List Nat :=
  if n = [97, 109, 112, 59] then [38] else if n = [108, 116, 59] then [60] else if n = [103, 116, 59] then [62] else if n = [113, 117, 111, 116, 59] then [34]
  else if n = [99, 111, 112, 121, 59] then [169] else if n = [110, 98, 115, 112, 59] then [160] else if n = [35, 54, 53, 59] then [65] else if n = [35, 120, 51, 99, 59] then [60]
  else 38 :: n
theorem replL_len (n : List Nat) : (replL n).length ≤ n.length + 1 := by
  unfold replL
  (repeat' split) <;> simp
def unescL (l : List Nat) : List Nat :=
  match h : findM l with
  | none => l
  | some (j, k) => l.take j ++ replL ((l.drop (j + 1)).take k) ++ unescL (l.drop (j + 1 + k))
termination_by l.length
decreasing_by
  have := findM_le h
  rw [List.length_drop]; omega
theorem unescL_none {l : List Nat} (h : findM l = none) : unescL l = l := by
  rw [unescL]
  split
  · rfl
  · rename_i e; rw [h] at e; cases e
theorem unescL_some {l : List Nat} {j k : Nat} (h : findM l = some (j, k)) : unescL l = l.take j ++ replL ((l.drop (j + 1)).take k) ++ unescL (l.drop (j + 1 + k)) := by
  rw [unescL]
  split
  · rename_i e; rw [h] at e; cases e
  · rename_i e; rw [h] at e; cases e; rfl
/-- what the pattern takes: a name of its own -/
def NameOk (n : List Nat) : Prop := ∃ c r, n = c :: r ∧ (c = 35 → n = [35, 54, 53, 59] ∨ n = [35, 120, 51, 99, 59])
theorem nameLen_ok {r : List Nat} {k : Nat} (h : nameLen r = some k) : NameOk (r.take k) := by
  have hk := nameLen_le h
  cases r with
  | nil => cases h
  | cons c r =>
    obtain ⟨k', rfl⟩ : ∃ k', k = k' + 1 := ⟨k - 1, by omega⟩
    refine ⟨c, r.take k', by rw [List.take_succ_cons], fun hc => ?_⟩
    subst hc
    rw [nameLen_cons, if_pos rfl] at h
    split at h
    · rename_i h3
      cases h
      left
      show 35 :: r.take 3 = _
      rw [h3]
    · split at h
      · rename_i h3
        cases h
        right
        show 35 :: r.take 4 = _
        rw [h3]
      · cases h
theorem findM_ok : ∀ {l : List Nat} {j k : Nat}, findM l = some (j, k) → NameOk ((l.drop (j + 1)).take k)
  | c :: r, j, k, h => by
    rw [findM_cons] at h
    have rest : (findM r).map (fun x => (x.1 + 1, x.2)) = some (j, k) → NameOk (((c :: r).drop (j + 1)).take k) := by
      intro h
      obtain ⟨⟨j', k'⟩, e, h⟩ := Option.map_eq_some_iff.mp h
      cases h
      exact findM_ok (l := r) (j := j') (k := k') e
    split at h
    · split at h
      · rename_i hn
        cases h
        exact nameLen_ok hn
      · exact rest h
    · exact rest h
theorem Fine_drop : ∀ (j : Nat) {l : List Nat}, Fine l → Fine (l.drop j)
  | 0, _, h => h
  | _ + 1, [], _ => trivial
  | j + 1, _ :: _, h => Fine_drop j h.1
end Mine
end

section
open PySem PySem.W PyProof.Rows PySem.Calls PySem.Spec
set_option Elab.async false
set_option maxRecDepth 100000
namespace Mine
theorem plainAttrs_pattern : PlainAttrs "re.Pattern" :=
  ⟨⟨"object.__getattribute__", by rw [typeLookup_type, builtinLookup_eq_fast]; kernel_rfl, by decide +kernel⟩, by rw [typeLookup_type, builtinLookup_eq_fast]; kernel_rfl⟩
theorem plainAttrs_match : PlainAttrs "re.Match" :=
  ⟨⟨"object.__getattribute__", by rw [typeLookup_type, builtinLookup_eq_fast]; kernel_rfl, by decide +kernel⟩, by rw [typeLookup_type, builtinLookup_eq_fast]; kernel_rfl⟩
theorem slot_pattern_sub : Slot "re.Pattern" "sub" "re.Pattern.sub" :=
  .of (owner := "re.Pattern") (n := "sub") (by rw [typeLookup_type, builtinLookup_eq_fast]; kernel_rfl) (by decide +kernel) (by decide +kernel) (by decide +kernel)
    (by first | exact .inl (by decide +kernel) | exact .inr (by decide +kernel)) (by rw [isSubtype_type]; kernel_rfl)
theorem type_pattern_sub : typeOf (.builtin "re.Pattern.sub") = pure (.type "method_descriptor") := by show builtinType _ = _; rw [builtinType_eq_fast]; kernel_rfl
theorem entry_pattern_sub : entryFor table "re.Pattern.sub" = some Builtin.«re.Pattern.sub» := entryFor_of_tree (by kernel_rfl)
theorem entry_pattern_loop : entryFor table "re.Pattern.sub.loop" = some Builtin.«re.Pattern.sub.loop» := entryFor_of_tree (by kernel_rfl)
theorem args_pattern_sub_3 (a b c : Value) : argsOk "re.Pattern.sub" ⟨[a, b, c], []⟩ := by
  unfold argsOk; kernel_rfl
theorem slot_match_group : Slot "re.Match" "group" "re.Match.group" :=
  .of (owner := "re.Match") (n := "group") (by rw [typeLookup_type, builtinLookup_eq_fast]; kernel_rfl) (by decide +kernel) (by decide +kernel) (by decide +kernel)
    (by first | exact .inl (by decide +kernel) | exact .inr (by decide +kernel)) (by rw [isSubtype_type]; kernel_rfl)
theorem type_match_group : typeOf (.builtin "re.Match.group") = pure (.type "method_descriptor") := by show builtinType _ = _; rw [builtinType_eq_fast]; kernel_rfl
theorem entry_match_group : entryFor table "re.Match.group" = some Builtin.«re.Match.group» := entryFor_of_tree (by kernel_rfl)
theorem args_match_group_2 (a b : Value) : argsOk "re.Match.group" ⟨[a, b], []⟩ := by
  unfold argsOk; kernel_rfl
theorem plain_loop : plainId "re.Pattern.sub.loop" = true := by decide +kernel
theorem function_call : typeLookup (.type "function") "__call__" = pure (some (.builtin "function.__call__")) := by rw [typeLookup_type, builtinLookup_eq_fast]; kernel_rfl
end Mine
end

section
open PySem PySem.W PyProof.Rows PySem.Calls PySem.Spec
set_option Elab.async false
set_option maxRecDepth 100000
namespace Mine
open PySem.Builtin PySem.Builtin.Re

theorem runFor_done {m : Sre.M} (h : m.outcome.isSome = true) : ∀ n, m.runFor n = m
  | 0 => rfl
  | n + 1 => by show (if m.outcome.isSome then m else _) = m; rw [if_pos h]

section
variable {M : Model} {A : Around} {E : Value → Shared → Prop} {s : Shared}

theorem wpAny_drive {Q : Sre.M → Shared → Prop} : ∀ (turns k : Nat) (m : Sre.M), k ≤ 4 * turns → 1 ≤ turns → ((m.runFor k).outcome.isSome = true) → Q (m.runFor k) s → wpAny M A (reDrive turns m) Q E s
  | 0, _, _, _, h1, _, _ => absurd h1 (by decide)
  | turns + 1, k, m, hk, _, ho, hq => by
    show wpAny M A (if (m.runFor 4).outcome.isSome = true then pure (m.runFor 4) else (do rule "sre.turn"; reDrive turns (m.runFor 4))) Q E s
    by_cases h4 : (m.runFor 4).outcome.isSome = true
    · rw [if_pos h4]
      have e : m.runFor 4 = m.runFor k := by
        rcases Nat.le_total k 4 with q | q
        · obtain ⟨j, e⟩ : ∃ j, 4 = k + j := ⟨4 - k, by omega⟩
          rw [e, runFor_add, runFor_done ho]
        · obtain ⟨j, rfl⟩ : ∃ j, k = 4 + j := ⟨k - 4, by omega⟩
          rw [runFor_add, runFor_done h4]
      rw [e]
      exact wpAny_pure hq
    · rw [if_neg h4]
      have q : 4 < k := by
        rcases Nat.lt_or_ge 4 k with q | q
        · exact q
        · exfalso
          obtain ⟨j, e⟩ : ∃ j, 4 = k + j := ⟨4 - k, by omega⟩
          rw [e, runFor_add, runFor_done ho] at h4
          exact h4 ho
      obtain ⟨j, rfl⟩ : ∃ j, k = 4 + j := ⟨k - 4, by omega⟩
      rw [runFor_add] at ho hq
      exact wpAny_bind (wpAny_rule (wpAny_drive turns j (m.runFor 4) (by omega) (by omega) ho hq))

theorem wpAny_forUnit {α : Type} {f : α → PUnit → Sem (ForInStep PUnit)} {Q : PUnit → Shared → Prop} (hf : ∀ a (R : ForInStep PUnit → Shared → Prop), R (.yield ⟨⟩) s → wpAny M A (f a ⟨⟩) R E s) (hq : Q ⟨⟩ s) :
    ∀ l : List α, wpAny M A (forIn l PUnit.unit f) Q E s
  | [] => wpAny_pure hq
  | a :: l => by
    rw [List.forIn_cons]
    exact wpAny_bind (hf a _ (wpAny_forUnit hf hq l))

theorem wpAny_runToEnd {Q : Option Sre.M → Shared → Prop} {n : Nat} {m : Sre.M} {P : Sre.M → Prop} (h : Ev n m P) (hn : n ≤ 4 * 2 ^ 64)
    (hp : ∀ m', P m' → (m'.outcome = some .matched ∧ Q (some m') s) ∨ (m'.outcome = some .failed ∧ Q none s)) :
    wpAny M A (reRunToEnd m) Q E s := by
  obtain ⟨k, hk, hP⟩ := h
  have hq := hp _ hP
  unfold reRunToEnd
  refine wpAny_bind (wpAny_drive (2 ^ 64) k m (Nat.le_trans hk hn) (by decide) (by rcases hq with q | q <;> rw [q.1] <;> rfl) ?_)
  refine wpAny_bind (wpAny_forUnit (fun a R hR => ?_) ?_ _)
  · split
    · exact wpAny_bind (wpAny_rule (wpAny_pure hR))
    · exact wpAny_pure hR
  · rcases hq with q | q
    · rw [q.1]; exact wpAny_pure q.2
    · rw [q.1]; exact wpAny_pure q.2
end
end Mine
end

section
open PySem PySem.W PyProof.Rows PySem.Calls PySem.Spec
set_option Elab.async false
set_option maxRecDepth 100000
namespace Mine
open PySem.Builtin PySem.Builtin.Re

section
variable {M : Model} {A : Around} {E : Value → Shared → Prop} {s : Shared}

abbrev patObj (a f b c : Value) : Obj := { cls := .type "re.Pattern", data := .fields #[a, f, .int 1 0, b, c, .ref 155, .int 0 0] }
abbrev codeObj : Obj := { cls := .type "tuple", data := .seq (CODE.toList.map fun (w : Nat) => Value.int (w : Int) 0).toArray 0 }

theorem wpAny_wholeTarget {a f b c : Value} {x : Str} {tk : Tok} {Q : ReTarget → Shared → Prop}
    (hp : s.heap.get? 156 = some (patObj a f b c)) (hc : s.heap.get? 155 = some codeObj)
    (h : Q { pattern := .ref 156, string := .str x tk, code := CODE, text := x.cps, kind := 0, groups := 1, pos := 0, lim := x.cps.size } s) :
    wpAny M A (reWholeTarget (.ref 156) (.str x tk)) Q E s := by
  unfold reWholeTarget
  refine wpAny_bind (wpAny_fieldsOf hp rfl ?_)
  refine wpAny_bind (m := reTextOf (.str x tk)) (wpAny_pure ?_)
  dsimp only
  refine wpAny_bind (wpAny_pure ?_)
  refine wpAny_bind ?_
  show wpAny M A (reRawItems (.ref 155)) _ _ _
  unfold reRawItems
  refine wpAny_bind (wpAny_seqItems hc rfl ?_)
  refine wpAny_pure (wpAny_pure ?_)
  have e : Array.map (fun x : Int => x.toNat) (Array.map reRawOf ((some (List.map (fun w : Nat => Value.int (w : Int) 0) CODE.toList).toArray).getD #[])) = CODE := by decide +kernel
  rw [e]
  exact h

theorem reNamed_3 (a b : Value) : reNamed "re.Pattern.sub" "sub" ["repl", "string", "count"] 2 [a, b] [] = pure [some a, some b, none] := by
  rfl


theorem wpAny_sub_entry {a f b c : Value} {fo : Obj} {F : Addr} {x : Str} {tk : Tok} {prog : Program} {w : World} {R : Result → Shared → Prop}
    (hp : s.heap.get? 156 = some (patObj a f b c)) (hc : s.heap.get? 155 = some codeObj) (hf : s.heap.get? F = some fo) (hfc : fo.cls = .type "function")
    (h : codeAny (model prog w) A (.builtin "re.Pattern.sub.loop" ⟨[.ref 156, .str x tk, .ref F, rawInt 1, rawInt 0, rawInt 0, rawInt 0, rawInt 0, .bool false, .ref s.heap.objs.size, .bool false], []⟩) R { s with heap := s.heap.push (listOf #[] 0) }) :
    wpAny (model prog w) A.in1 (Builtin.«re.Pattern.sub» ⟨[.ref 156, .ref F, .str x tk], []⟩) (fun fin s' => match fin with | .done f => R (.ok f) s' | .again c' => c'.quiet = true ∧ codeAny (model prog w) A c' R s') (fun e s' => R (.error e) s') s := by
  unfold Builtin.«re.Pattern.sub» reSubstitute
  refine wpAny_bind (wpAny_of_eq (reNamed_3 _ _) ?_)
  dsimp only
  refine wpAny_bind (wpAny_pure ?_)
  refine wpAny_bind (wpAny_specialOf ⟨_, hf, hfc⟩ function_call ?_)
  refine wpAny_pos rfl ?_
  refine wpAny_bind (wpAny_pure ?_)
  refine wpAny_pos rfl ?_
  refine wpAny_bind (wpAny_pure ?_)
  dsimp only
  refine wpAny_bind (wpAny_holding (wpAny_wholeTarget hp hc ?_))
  refine wpAny_pos rfl ?_
  unfold reNotHeld
  refine wpAny_bind ?_
  refine wpAny_bind (wpAny_isInstance (T := "str") (b := false) rfl (by rw [isSubtype_type]; kernel_rfl) ?_)
  refine wpAny_neg Bool.false_ne_true ?_
  refine wpAny_pure ?_
  refine wpAny_bind (wpAny_newObj_type ?_ (by size_fits))
  exact wpAny_pure ⟨plainId_quiet plain_loop _, h⟩
end
end Mine
end

section
open PySem PySem.W PyProof.Rows PySem.Calls PySem.Spec
set_option Elab.async false
set_option maxRecDepth 100000
namespace Mine
open PySem.Builtin PySem.Builtin.Re

abbrev matchObj (x : Str) (tk : Tok) (lim : Nat) (tp : Addr) : Obj := { cls := .type "re.Match", data := .fields #[.str x tk, .ref 156, rawInt 0, rawInt lim, rawInt 1, .ref tp] }
abbrev spansObj (st en b e : Nat) : Obj := { cls := .type "tuple", data := .seq #[rawInt st, rawInt en, rawInt b, rawInt e] 0 }

section
variable {M : Model} {A : Around} {E : Value → Shared → Prop} {s : Shared}

theorem wpAny_newMatch {x : Str} {tk : Tok} {lim st en b e : Nat} {m : Sre.M} {Q : Value → Shared → Prop} (h1 : m.start = st) (h2 : m.handed = en) (h3 : m.marks = #[some b, some e]) (h4 : m.lastmark = 1) (h5 : m.lastindex = 1) (hbe : b ≤ e)
    (h : Q (.ref (s.heap.objs.size + 1)) { s with heap := (s.heap.push (spansObj st en b e)).push (matchObj x tk lim s.heap.objs.size) }) :
    wpAny M A (reNewMatch (.ref 156) (.str x tk) 1 0 lim m) Q E s := by
  unfold reNewMatch
  rw [h1, h2, h3, h4, h5]
  dsimp only
  refine wpAny_neg ?_ ?_
  · show ¬ ((decide (((2 * 0 + 1 : Nat) : Int) ≤ 1) && decide (e < b)) || false) = true
    rw [decide_eq_false (by omega : ¬ e < b)]
    decide
  · show wpAny M A (newTuple [rawInt st, rawInt en, rawInt b, rawInt e] >>= fun v => newFields "re.Match" [.str x tk, .ref 156, rawInt (0 : Nat), rawInt lim, rawInt 1, v]) Q E s
    refine wpAny_bind (wpAny_newObj_type ?_ (by size_fits))
    refine wpAny_newObj_type ?_ (by size_fits)
    have e1 : (s.heap.push (spansObj st en b e)).objs.size = s.heap.objs.size + 1 := Heap.size_push _ _
    rw [← e1] at h
    exact h
end

def flat (ys : List Str) : List Nat := (ys.map (·.cps.toList)).flatten
theorem flat_append (a b : List Str) : flat (a ++ b) = flat a ++ flat b := by simp [flat]
theorem flat_one (a : Str) : flat [a] = a.cps.toList := by simp [flat]
theorem flat_len (ys : List Str) : (flat ys).length = (ys.map (·.length)).sum := by
  induction ys with
  | nil => rfl
  | cons a r ih =>
    rw [show a :: r = [a] ++ r from rfl, flat_append, List.length_append, ih, flat_one, List.map_append, List.sum_append]
    simp [Str.length]
theorem join_flat : ∀ ys : List Str, Txt.join ⟨#[]⟩ ys = ⟨(flat ys).toArray⟩ := by
  intro ys
  show Builtin.Str.glued ⟨#[]⟩ ys = _
  rw [StrLaws.glued_eq_join]
  apply Str.ext'
  show (Str.join ⟨#[]⟩ ys).cps = (flat ys).toArray
  apply Array.ext'
  rw [List.toList_toArray]
  induction ys with
  | nil => rfl
  | cons a r ih =>
    cases r with
    | nil => rw [flat_one]; rfl
    | cons b r =>
      show (a ++ ⟨#[]⟩ ++ Str.join ⟨#[]⟩ (b :: r)).cps.toList = _
      rw [Str.cps_append, Array.toList_append, ih, show a :: b :: r = [a] ++ (b :: r) from rfl, flat_append, flat_one, Str.cps_append]
      simp
theorem strsAre_push {its : Array Value} {ys : List Str} {y : Str} {t : Tok} (h : StrsAre its.toList ys) : StrsAre (its.push (.str y t)).toList (ys ++ [y]) := by
  rw [Array.toList_push]
  generalize its.toList = l at h
  induction h with
  | nil => exact .cons y t .nil
  | cons z u _ ih => exact .cons z u ih
theorem strsAre_len {l : List Value} {ys : List Str} (h : StrsAre l ys) : l.length = ys.length := by
  induction h with
  | nil => rfl
  | cons _ _ _ ih => simp [ih]
end Mine
end

section
open PySem PySem.W PyProof.Rows PySem.Calls PySem.Spec
set_option Elab.async false
set_option maxRecDepth 100000
namespace Mine
open PySem.Builtin PySem.Builtin.Re

abbrev Prg : Program := Challenge.rw_ci0013_01.row.prog

section
variable {h₀ h : Heap} {L D : Addr} {m : Str → Option Value} {news : List (Addr × Obj)} {its : Array Value} {n : Nat} {v : Value} {M : Model} {A : Around} {E : Value → Shared → Prop} {s : Shared}
/-- an item laid onto the list at the ledger's head -/
theorem wpAny_pushHead {Q : Unit → Shared → Prop} (F : Fr h₀ L s.heap m) (N : News h₀ L s.heap ((D, listOf its n) :: news)) (hD : ∀ p ∈ news, p.1 ≠ D) (hz : its.size ≤ 1000000)
    (h : ∀ h', Fr h₀ L h' m → News h₀ L h' ((D, listOf (its.push v) (n + 1)) :: news) → Q () { s with heap := h' }) :
    wpAny M A (updateSeq D (·.push v)) Q E s := by
  have z := N _ (.head _)
  have e : Obj.mapSeq (·.push v) (listOf its n) = listOf (its.push v) (n + 1) := by
    show ({ cls := .type "list", dict := none, data := .seq (its.push v) (if ((its.push v).size == its.size) = true then n else n + 1), slots := #[] } : Obj) = _
    rw [Array.size_push, if_neg (by simp)]
  refine wpAny_updateSeq z.1 rfl ?_ (by rw [sizeLine_eq]; omega) (by rw [Array.size_push, sizeLine_eq]; omega)
  have hs : Heap.SameBut D s.heap (s.heap.update D (Obj.mapSeq (·.push v))) := Heap.SameBut.update ..
  have ho : (s.heap.update D (Obj.mapSeq (·.push v))).get? D = some (listOf (its.push v) (n + 1)) := by
    rw [Heap.get?_update_self _ z.1 (by rw [e]; rfl), e]
  exact h _ (F.change hs z.2.1 z.2.2) (news_set (pre := []) N (fun _ hp => nomatch hp) hD hs ho)
end

section
variable {w : World} {x : Str} {tk : Tok} {p : Program} {loose : List Str} {mean : ExcName → Option Value} {mg mb : Str → Option Value}
    {dp un : Nat} {gd : Option (List Code)} {cn : Str} {cs : Scope} {a : Addr} {ccd : Value} {cl : List (Str × Addr)} {outer : List Env} {A₀ : Around} {base h₀ : Heap} {L : Addr} {m : Str → Option Value} {news : List (Addr × Obj)} {D : Addr}
    {R : Result → Shared → Prop} {pa pf pb pc : Value}


def endT (D : Addr) (x : Str) (n : Int) : Sem Fin := do
  let joiner ← reSlice x.cps 0 0 0
  let it ← seqItems? (.ref D)
  if (it.getD #[]).isEmpty = true then do
    let text ← pure joiner
    if false = true then do
      let r ← holding [text] do
        let k ← mkInt n
        newTuple [text, k]
      ret r
    else ret text
  else do
    let text ← call (.builtin (if ((0 : Nat) == 0) = true then "str.join" else "bytes.join")) [joiner, .ref D]
    if false = true then do
      let r ← holding [text] do
        let k ← mkInt n
        newTuple [text, k]
      ret r
    else ret text

def turnT (D : Addr) (x : Str) (tk : Tok) (n : Int) (m' : Sre.M) : Sem Fin := do
  let found ← reNewMatch (.ref 156) (.str x tk) 1 0 x.cps.size m'
  let item ← holding [found] (if ((1 : Int) == 1) = true then call (.ref 66) [found] else do
    let f ← reFound found
    reExpand (.ref 66) f)
  if (item != .none) = true then do
    updateSeq D fun x => x.push item
    again (.builtin "re.Pattern.sub.loop" ⟨[.ref 156, .str x tk, .ref 66, .int 1 0, .int 0 0, .int (n + 1) 0, .int m'.handed 0, .int m'.handed 0, .bool (m'.handed == m'.start), .ref D, .bool false], []⟩)
  else
    again (.builtin "re.Pattern.sub.loop" ⟨[.ref 156, .str x tk, .ref 66, .int 1 0, .int 0 0, .int (n + 1) 0, .int m'.handed 0, .int m'.handed 0, .bool (m'.handed == m'.start), .ref D, .bool false], []⟩)

theorem wpAny_slice {M : Model} {A : Around} {E : Value → Shared → Prop} {s : Shared} {T : Array Nat} {b e : Nat} {Q : Value → Shared → Prop} (hT : T.size ≤ 100000) (h : Q (.str ⟨T.extract b e⟩ s.toks) { s with toks := s.toks + 1 }) :
    wpAny M A (reSlice T 0 b e) Q E s := by
  unfold reSlice
  refine wpAny_pos rfl ?_
  refine wpAny_mkStr h ?_
  show (T.extract b e).size ≤ sizeLine
  rw [Array.size_extract, sizeLine_eq]; omega
theorem extract_drop (T : Array Nat) (b : Nat) : (T.extract b T.size).toList = T.toList.drop b := by
  rw [Array.toList_extract]
  simp only [List.extract]
  exact List.take_of_length_le (by simp)
theorem extract_take (T : Array Nat) (b j : Nat) : (T.extract b (b + j)).toList = (T.toList.drop b).take j := by
  rw [Array.toList_extract]
  simp [List.extract]

theorem end_rule {R' : Value → Shared → Prop} {its : Array Value} {ep : Nat} {ys : List Str} {s : Shared} {n : Int} {A : Around} {post : Fin → Shared → Prop} {E : Value → Shared → Prop} (hx : x.cps.size ≤ 100000) (hpost : ∀ v s', R' v s' → post (.done (.ret v)) s') (F : Fr h₀ L s.heap m) (N : News h₀ L s.heap ((D, listOf its ep) :: news))
    (hsa : StrsAre its.toList ys) (hfl : (flat ys).length ≤ 100000) (hR : ∀ t tk', s.toks ≤ tk' → R' (.str ⟨(flat ys).toArray⟩ t) { s with toks := tk' }) :
    wpAny (model Prg w) A (endT D x n) post E s := by
  unfold endT
  refine wpAny_bind (wpAny_slice hx ?_)
  refine wpAny_bind (wpAny_seqItems (N _ (.head _)).1 rfl ?_)
  have hl := strsAre_len hsa
  by_cases h0 : its.isEmpty = true
  · refine wpAny_pos h0 ?_
    refine wpAny_bind (wpAny_pure ?_)
    refine wpAny_neg Bool.false_ne_true ?_
    refine wpAny_pure (hpost _ _ ?_)
    have hy : ys = [] := by
      rw [Array.isEmpty_iff_size_eq_zero] at h0
      rw [Array.length_toList] at hl
      exact List.eq_nil_of_length_eq_zero (by omega)
    subst hy
    have e : (⟨x.cps.extract 0 0⟩ : Str) = ⟨(flat []).toArray⟩ := by simp [flat]
    rw [e]
    exact hR _ _ (Nat.le_succ _)
  · refine wpAny_neg h0 ?_
    refine wpAny_bind (wpAny_toks ?_)
    have e : (⟨x.cps.extract 0 0⟩ : Str) = ⟨#[]⟩ := by simp
    rw [e]
    refine join_list (s := { s with toks := s.toks + 1 }) ⟨_, (N _ (.head _)).1, rfl, _, rfl⟩ hsa ?_ ?_
    · rw [← flat_len]
      show (flat ys).length + ys.length * 0 ≤ _
      omega
    · intro t' k hk
      refine wpAny_neg Bool.false_ne_true ?_
      refine wpAny_pure (hpost _ _ ?_)
      rw [join_flat]
      exact hR t' k (Nat.le_trans (Nat.le_succ _) hk)

theorem sub_loop (hx : x.length ≤ 100000)
    (hcb : ∀ (a tp : Addr) (st en b e : Nat), b ≤ e → e ≤ x.cps.size → NameOk ((x.cps.toList.drop b).take (e - b)) →
      SpecN w 2 66 (fun news => (a, matchObj x tk x.cps.size tp) ∈ news ∧ (tp, spansObj st en b e) ∈ news) [.ref a] (fun t => .str ⟨(replL ((x.cps.toList.drop b).take (e - b))).toArray⟩ t))
    (B : Below A₀ base outer h₀) (X : (hd.heap_39 w.params).In h₀) (T : Top p loose mean mg mb h₀) (hk : cs.kind = .function) (hd : dp + 2 < recursionLimit) (hu : un + 21 < cLine)
    (hp : h₀.get? 156 = some (patObj pa pf pb pc)) (hc : h₀.get? 155 = some codeObj) (hD : ∀ p ∈ news, p.1 ≠ D) :
    ∀ (len : Nat) (l : List Nat) (d : Nat) (n : Int) (its : Array Value) (ep : Nat) (ys : List Str) (s : Shared), l.length < len → x.cps.toList.drop d = l → d ≤ x.cps.size → Fine l → StrsAre its.toList ys → its.size ≤ 2 * d → (flat ys).length ≤ d →
      Fr h₀ L s.heap m → News h₀ L s.heap ((D, listOf its ep) :: news) → 1 ≤ s.toks →
      (∀ t h' tk', s.toks ≤ tk' → Fr h₀ L h' m → News h₀ L h' news → R (.ok (.ret (.str ⟨(flat ys ++ unescL l).toArray⟩ t))) { s with heap := h', toks := tk' }) →
      codeAny (model Prg w) (ktrTop dp un gd cn cs L a ccd cl outer) (.builtin "re.Pattern.sub.loop" ⟨[.ref 156, .str x tk, .ref 66, rawInt 1, rawInt 0, rawInt n, rawInt d, rawInt d, .bool false, .ref D, .bool false], []⟩) R s
  | 0, l, d, n, its, ep, ys, s, hlen, hl, hds, hf, hsa, hz, hfl, F, N, htk, hR => absurd hlen (Nat.not_lt_zero _)
  | len + 1, l, d, n, its, ep, ys, s, hlen, hl, hds, hf, hsa, hz, hfl, F, N, htk, hR => by
    refine codeAny_builtin entry_pattern_loop ?_
    rw [Around.under_plainId plain_loop]
    unfold Builtin.«re.Pattern.sub.loop»
    dsimp only [rawInt]
    refine wpAny_bind (wpAny_wholeTarget (F.keep _ _ hp) (F.keep _ _ hc) ?_)
    refine wpAny_neg (by decide) ?_
    refine wpAny_bind (wpAny_neg (by simp) ?_)
    unfold reNextFound
    dsimp only
    rw [Int.toNat_natCast]
    have hsp := search_spec (T := x.cps) (s := d) (P := fun m' => match findM l with
        | none => m'.outcome = some .failed
        | some (j, k) => m'.outcome = some .matched ∧ m'.start = d + j ∧ m'.handed = d + j + 1 + k ∧ m'.marks = #[some (d + j + 1), some (d + j + 1 + k)] ∧ m'.lastmark = 1 ∧ m'.lastindex = 1)
        hds (by rw [hl]; exact hf) (by rw [hl]; intro h m' hm'; rw [h]; exact hm') (by rw [hl]; intro j k h m' a1 a2 a3 a4 a5 a6; rw [h]; exact ⟨a1, a2, a3, a4, a5, a6⟩)
    have hxs : x.cps.size ≤ 100000 := hx
    have hll : l.length = x.cps.size - d := by rw [← hl, List.length_drop, Array.length_toList]
    refine wpAny_runToEnd hsp (by omega) fun m' hm' => ?_
    cases hfm : findM l with
    | none =>
      rw [hfm] at hm'
      refine .inr ⟨hm', ?_⟩
      dsimp only
      rw [unescL_none hfm] at hR
      by_cases hdl : d < x.cps.size
      · refine wpAny_pos hdl ?_
        refine wpAny_bind (wpAny_slice hxs ?_)
        refine wpAny_bind (wpAny_pushHead (s := { s with toks := s.toks + 1 }) F N hD (by omega) fun h' F' N' => ?_)
        refine end_rule (R' := fun v s' => R (.ok (.ret v)) s') hxs (fun _ _ h => h) F' N' (strsAre_push hsa) ?_ ?_
        · rw [flat_append, flat_one, extract_drop, hl, List.length_append]; omega
        · intro t tk' htk'
          rw [flat_append, flat_one, extract_drop, hl]
          exact hR t h' tk' (Nat.le_trans (Nat.le_succ _) htk') F' (fun p hp => N' p (.tail _ hp))
      · refine wpAny_neg hdl ?_
        refine end_rule (R' := fun v s' => R (.ok (.ret v)) s') hxs (fun _ _ h => h) F N hsa (by omega) ?_
        intro t tk' htk'
        have e : l = [] := List.eq_nil_of_length_eq_zero (by omega)
        have := hR t s.heap tk' htk' F (fun p hp => N p (.tail _ hp))
        rw [e, List.append_nil] at this
        exact this
    | some jk =>
      obtain ⟨j, k⟩ := jk
      rw [hfm] at hm'
      obtain ⟨a1, a2, a3, a4, a5, a6⟩ := hm'
      refine .inl ⟨a1, ?_⟩
      dsimp only
      have hjk := findM_le hfm
      rw [unescL_some hfm] at hR
      -- the turn's rest, whatever was laid
      have turn : ∀ (its₁ : Array Value) (ep₁ : Nat) (ys₁ : List Str) (s₁ : Shared), StrsAre its₁.toList ys₁ → its₁.size ≤ 2 * d + 1 → flat ys₁ = flat ys ++ l.take j → Fr h₀ L s₁.heap m → News h₀ L s₁.heap ((D, listOf its₁ ep₁) :: news) → s.toks ≤ s₁.toks →
          s₁.gens = s.gens → s₁.drawn = s.drawn → s₁.os = s.os →
          wpAny (model Prg w) (ktrTop dp un gd cn cs L a ccd cl outer).in1 (turnT D x tk n m') (fun fin s' => match fin with | .done f => R (.ok f) s' | .again c' => c'.quiet = true ∧ codeAny (model Prg w) (ktrTop dp un gd cn cs L a ccd cl outer) c' R s') (fun e s' => R (.error e) s') s₁ := by
        intro its₁ ep₁ ys₁ s₁ hsa₁ hz₁ hfl₁ F₁ N₁ htk₁ g1 g2 g3
        unfold turnT
        refine wpAny_bind (wpAny_newMatch a2 a3 a4 a5 a6 (by omega) ?_)
        have F₂ := (F₁.push (spansObj (d + j) (d + j + 1 + k) (d + j + 1) (d + j + 1 + k))).push (matchObj x tk x.cps.size s₁.heap.objs.size)
        have N₂ := (N₁.push F₁ (spansObj (d + j) (d + j + 1 + k) (d + j + 1) (d + j + 1 + k))).push (F₁.push _) (matchObj x tk x.cps.size s₁.heap.objs.size)
        rw [Heap.size_push] at N₂
        refine wpAny_bind (wpAny_holding (wpAny_pos (by decide) ?_))
        have hname : (x.cps.toList.drop (d + j + 1)).take (d + j + 1 + k - (d + j + 1)) = (l.drop (j + 1)).take k := by
          rw [← hl, List.drop_drop, Nat.add_sub_cancel_left, Nat.add_assoc]
        have cb := hcb (s₁.heap.objs.size + 1) s₁.heap.objs.size (d + j) (d + j + 1 + k) (d + j + 1) (d + j + 1 + k) (by omega) (by omega) (by rw [hname]; exact findM_ok hfm)
        rw [hname] at cb
        refine cb p loose mean mg mb dp (un + 1) gd cn cs a ccd cl outer A₀ base h₀ L m _ _ _ _ B F₂ X N₂ T hk ⟨.head _, .tail _ (.head _)⟩ hd (by omega) (by dsimp only; omega) ?_
        intro t h' tk' htk' F₃ N₃
        refine wpAny_pos rfl ?_
        have N₄ : News h₀ L h' ((D, listOf its₁ ep₁) :: news) := fun q hq => N₃ q (.tail _ (.tail _ hq))
        refine wpAny_bind (wpAny_pushHead (s := { s₁ with heap := h', toks := tk' }) F₃ N₄ hD (by omega) fun h'' F₅ N₅ => ?_)
        refine wpAny_pure ⟨plainId_quiet plain_loop _, ?_⟩
        rw [a2, a3]
        have eb : (d + j + 1 + k == d + j) = false := by rw [beq_eq_false_iff_ne]; omega
        rw [eb]
        have hrl : (replL ((l.drop (j + 1)).take k)).length ≤ k + 1 := by
          refine Nat.le_trans (replL_len _) ?_
          rw [List.length_take]; omega
        dsimp only at htk'
        refine sub_loop hx hcb B X T hk hd hu hp hc hD len (l.drop (j + 1 + k)) (d + j + 1 + k) (n + 1) _ _ _ { s₁ with heap := h'', toks := tk' } ?_ ?_ ?_ ?_ (strsAre_push hsa₁) ?_ ?_ F₅ N₅ ?_ ?_
        · rw [List.length_drop]; omega
        · rw [← hl, List.drop_drop]; congr 1; omega
        · omega
        · exact Fine_drop _ hf
        · rw [Array.size_push]; omega
        · rw [flat_append, flat_one, hfl₁, List.length_append, List.length_append, List.length_take]
          rw [show (⟨(replL ((l.drop (j + 1)).take k)).toArray⟩ : Str).cps.toList = replL ((l.drop (j + 1)).take k) from rfl]
          omega
        · dsimp only; omega
        · intro t₂ h₂ tk₂ htk₂ F₆ N₆
          have := hR t₂ h₂ tk₂ (by dsimp only at htk₂; omega) F₆ N₆
          rw [flat_append, flat_one, hfl₁]
          rw [g1, g2, g3]
          simpa [List.append_assoc] using this
      by_cases hj : j = 0
      · subst hj
        refine wpAny_neg (by omega) ?_
        refine wpAny_neg (by decide) ?_
        exact turn its ep ys s hsa (by omega) (by simp) F N (Nat.le_refl _) rfl rfl rfl
      · refine wpAny_pos (by omega) ?_
        refine wpAny_bind (wpAny_slice hxs ?_)
        refine wpAny_bind (wpAny_pushHead (s := { s with toks := s.toks + 1 }) F N hD (by omega) fun h' F' N' => ?_)
        refine wpAny_neg (by decide) ?_
        exact turn _ _ _ { s with heap := h', toks := s.toks + 1 } (strsAre_push hsa) (by rw [Array.size_push]; omega) (by rw [flat_append, flat_one, a2, extract_take, hl]) F' N' (Nat.le_succ _) rfl rfl rfl
end
end Mine
end

section
open PySem PySem.W PyProof.Rows PySem.Calls PySem.Spec
set_option Elab.async false
set_option maxRecDepth 100000
namespace Mine
def hexL : List Nat := [48, 49, 50, 51, 52, 53, 54, 55, 56, 57, 97, 98, 99, 100, 101, 102, 65, 66, 67, 68, 69, 70]
def hv (c : Nat) : Nat := if c ≤ 57 then c - 48 else if c ≤ 70 then c - 55 else c - 87
noncomputable def readIs (t : List Nat) (n : Int) : Bool := (int_private% "Numeral.rec") (motive := fun _ => Bool) false (fun _ => false) false (fun m => decide (m = n)) ((int_private% "readNumeral") 0 16 t)
theorem read_all : (hexL.all fun a => hexL.all fun b => readIs [a, b] ((hv a * 16 + hv b : Nat) : Int)) = true := by decide +kernel
theorem readIs_eq {t : List Nat} {n : Int} (h : readIs t n = true) : (int_private% "readNumeral") 0 16 t = (int_private% "Numeral.value") n := by
  unfold readIs at h
  generalize (int_private% "readNumeral") 0 16 t = x at h ⊢
  cases x with
  | value m => exact congrArg _ (of_decide_eq_true h)
  | _ => cases h
theorem read_hex {a b : Nat} (ha : a ∈ hexL) (hb : b ∈ hexL) : (int_private% "readNumeral") 0 16 [a, b] = (int_private% "Numeral.value") ((hv a * 16 + hv b : Nat) : Int) :=
  readIs_eq (List.all_eq_true.mp (List.all_eq_true.mp read_all a ha) b hb)
theorem hexL_ok : ∀ a ∈ hexL, a < 128 ∧ a ≠ 0 := by decide
theorem typeCall_int_2 (a b : Value) : checkTypeCall "int" ⟨[a, b], []⟩ = pure () := by kernel_rfl
theorem newCall_int_2 (a b : Value) : checkBuiltinCall "int.__new__" ⟨[.type "int", a, b], []⟩ = pure () := by kernel_rfl
theorem args_object_init_3 (a b c : Value) : argsOk "object.__init__" ⟨[a, b, c], []⟩ := by unfold argsOk; kernel_rfl

theorem hex_text {a b : Nat} (ha : a ∈ hexL) (hb : b ∈ hexL) : (if (#[a, b] : Array Nat).all (· < 128) then (#[a, b] : Array Nat).toList else Unicode.numberText (#[a, b] : Array Nat).toList) = [a, b] := by
  have h1 := (hexL_ok a ha).1
  have h2 := (hexL_ok b hb).1
  rw [if_pos (by simp [h1, h2])]
theorem hex_take {a b : Nat} (ha : a ∈ hexL) (hb : b ∈ hexL) : List.takeWhile (fun x => x != 0) [a, b] = [a, b] := by
  have h1 := (hexL_ok a ha).2
  have h2 := (hexL_ok b hb).2
  rw [List.takeWhile_cons_of_pos (by simp [h1]), List.takeWhile_cons_of_pos (by simp [h2])]
  rfl
structure HexOk (a b : Nat) : Prop where
  a : a ∈ hexL
  b : b ∈ hexL
theorem wp_hex {M : Model} {A : Around} {E : Value → Shared → Prop} {s : Shared} {Q : Value → Shared → Prop} {v : Value} {a b : Nat} (H : HexOk a b)
    (h : Q (.int ((hv a * 16 + hv b : Nat) : Int) s.toks) { s with toks := s.toks + 1 }) :
    wpAny M A ((int_private% "intFromText") v [a, b] 16) Q E s := by
  have e := hex_take H.a H.b
  have hr := read_hex H.a H.b
  obtain ⟨hp, g, d, tk, os⟩ := s
  have hl : (List.takeWhile (fun x => x != 0) [a, b]).length ≤ 640 := by rw [e]; exact (by decide : 2 ≤ 640)
  have hq : ((List.takeWhile (fun x => x != 0) [a, b]).length == [a, b].length) = true := by rw [e]; rfl
  rw [← e] at hr
  clear e
  repeat (any_goals (first
    | assumption
    | (with_reducible refine wpAny_ite_true (decide_eq_true hl) ?_)
    | (with_reducible refine wpAny_ite_true (decide_eq_true hq) ?_)
    | wp_step))
  all_goals (try rw [hr])
  all_goals (try dsimp only)
  repeat (any_goals (first
    | assumption
    | (with_reducible refine wpAny_ite_true (decide_eq_true hl) ?_)
    | (with_reducible refine wpAny_ite_true (decide_eq_true hq) ?_)
    | wp_step))
theorem gives_hex {a b : Nat} {u v : Tok} (H : HexOk a b) : Gives (Builtin.«int.__new__» ⟨[.type "int", .str ⟨#[a, b]⟩ u, .int 16 v], []⟩) (.int ((hv a * 16 + hv b : Nat) : Int)) :=
  .of_wp fun M A E s Q h => by
    obtain ⟨hp, g, d, tk, os⟩ := s
    have f1 := F.conv_sub_int
    have f2 := F.madeHere_int
    have hx := Eq.symm (hex_text H.a H.b)
    repeat (any_goals (first
      | assumption
      | ((with_reducible show wpAny _ _ ((int_private% "intFromText") _ _ _) _ _ _); (rw [hex_text H.a H.b]); refine wp_hex H ?_)
      | wp_step))
    all_goals first | exact ⟨_, rfl, h⟩ | skip

section
variable {prog : Program} {w : World} {A : Around} {E : Value → Shared → Prop} {s : Shared} {Q : Value → Shared → Prop}
theorem call_hex {x : Str} {a b : Nat} {t u : Tok} (hx : x = ⟨#[a, b]⟩) (H : HexOk a b) (h : Q (.int ((hv a * 16 + hv b : Nat) : Int) s.toks) { s with toks := s.toks + 1 }) :
    wpAny (model prog w) A (call (.type "int") [.str x t, .int 16 u]) Q E s := by
  subst hx
  exact callType_new F.called_int F.newNe_int (typeCall_int_2 _ _) (newCall_int_2 _ _) (fun obj => args_object_init_3 obj _ _) F.entry_int_new (gives_hex H).meets (show (Made.int _).post _ s from ⟨rfl, h⟩)
end
end Mine
end

section
open PySem PySem.W PyProof.Rows PySem.Calls PySem.Spec
set_option Elab.async false
set_option maxRecDepth 100000
namespace Mine

/-- a value that an iterator walks -/
def IterOf (prog : Program) (w : World) (A : Around) (xv : Value) (s : Shared) (n : Nat) (P : Nat → Value → Prop) : Prop :=
  ∀ Q E : Value → Shared → Prop, (∀ (o : Obj) (St : Nat → Heap → Prop), o.isFreed = false → Walks prog w A s.heap.objs.size [s.heap.objs.size] [s.heap.objs.size] n P St → (∀ i h, St i h → ∃ o, h.get? s.heap.objs.size = some o) → St 0 (s.heap.push o) →
    Q (.ref s.heap.objs.size) { s with heap := s.heap.push o }) → wpAny (model prog w) A (pyIter xv) Q E s

section
variable {prog : Program} {w : World} {A : Around} {E : Value → Shared → Prop} {s : Shared} {h₀ : Heap} {L : Addr} {m : Str → Option Value} {env : Env}
theorem iterOf_str (hh : A.handled = none) (x : Str) (t : Tok) : IterOf prog w A (.str x t) s x.cps.size (SignAt x) := by
  intro Q E hQ
  cases ha : x.cps.all (· < 128)
  · exact wpAny_pyIter_wide ha (hQ _ _ rfl (Walks.strWide hh _ x t) (fun i h st => let ⟨o, e, _⟩ := st; ⟨o, e⟩) ⟨_, Heap.get?_push_size _ rfl, rfl, rfl⟩)
  · exact wpAny_pyIter_ascii ha (hQ _ _ rfl (Walks.strAscii hh _ x t) (fun i h st => let ⟨o, e, _⟩ := st; ⟨o, e⟩) ⟨_, Heap.get?_push_size _ rfl, rfl, rfl⟩)
theorem iterOf_bytes (hh : A.handled = none) (b : Array UInt8) (t : Tok) : IterOf prog w A (.bytes b t) s b.size (fun i v => ∃ c u, b[i]? = some c ∧ v = .int (c.toNat : Int) u) := by
  intro Q E hQ
  exact KBw.pyIter_bytes (hQ _ _ rfl (KBw.walks hh _ b t) (fun i h st => let ⟨o, e, _⟩ := st; ⟨o, e⟩) ⟨_, Heap.get?_push_size _ rfl, rfl, rfl⟩)

/-- what the comprehension's source must be -/
def CSrc (prog : Program) (w : World) (A : Around) (h₀ : Heap) (L : Addr) (m : Str → Option Value) (env : Env) (elt : Expr) (x : Str) (scope : Scope) (cl : List (Str × Addr)) (Fin : Shared → List Value → List (Addr × Obj) → Prop) (xv : Value) (s₁ : Shared) : Prop :=
  ∃ n P news, IterOf prog w A xv s₁ n P ∧ n ≤ sizeLine ∧ Fr h₀ L s₁.heap m ∧ News h₀ L s₁.heap news ∧
    ∀ s₂ : Shared, (∃ h, s₂ = { s₁ with heap := h }) → LCg.CompRest prog w A h₀ L m env elt x scope cl s₂ (fun _ => True) P (Fin s₂) n 0 [] news

theorem st_same {I : Addr} {n : Nat} {P : Nat → Value → Prop} {St : Nat → Heap → Prop} (W : Walks prog w A I [I] [I] n P St) :
    ∀ i (h h' : Heap) (o : Obj) (nw : List (Addr × Obj)), St i h → h.get? I = some o → h'.get? I = some o → (∀ b o, h₀.get? b = some o → h'.get? b = some o) → News h₀ L h' nw → True → St i h' :=
  fun i h h' o nw st e e' _ _ _ => W.frame i h h' st fun b hb o' e'' => by
    rw [List.mem_singleton.mp hb] at e'' ⊢
    rw [e] at e''; cases e''; exact e'

/-- the comprehension's own frame may change: the ledger stands -/
theorem led_apart {C D : Addr} {o : Obj} {h h₂ : Heap} {nw : List (Addr × Obj)} (N : News h₀ L h ((D, o) :: nw)) (sb : Heap.SameBut C h h₂) (hD : C ≠ D) (off : ∀ p ∈ nw, p.1 ≠ C) : News h₀ L h₂ ((D, o) :: nw) := by
  intro p hp
  have far : p.1 ≠ C := by
    cases hp with
    | head => exact fun e => hD e.symm
    | tail _ q => exact off p q
  exact ⟨sb.extBut p.1 p.2 far (N p hp).1, (N p hp).2⟩
/-- the whole run of a comprehension over such a source: what its end has to show is asked once -/
theorem run_W {elt iter : Expr} {x : Str} {px : Pos} {scope : Scope} {cl : List (Str × Addr)} {pos : Pos} {Fin : Shared → List Value → List (Addr × Obj) → Prop} {xv : Value} {s₁ : Shared} {RR : Value → Addr → Result → Shared → Prop}
    (src : CSrc prog w A h₀ L m env elt x scope cl Fin xv s₁) (hcell : ∀ y ∈ scope.names, y.2 ≠ .cell) (hkind : scope.kind = .function) (hx : scope.names.lookup x = some .local)
    (fin : ∀ (s₂ : Shared) D C h tk m' ys nw, Fr h₀ L h m → h.Ns C m' → h₀.get? C = none → C ≠ L → (∀ h₂, Heap.SameBut C h h₂ → Fr h₀ L h₂ m) → (∀ h₂, Heap.SameBut C h h₂ → News h₀ L h₂ ((D, LCg.lst ys) :: nw)) →
      LCg.Off1 D nw → C ≠ D → (∀ p ∈ nw, p.1 ≠ C) → News h₀ L h ((D, LCg.lst ys) :: nw) → Fin s₂ ys nw → RR (.ref D) C (.ok .next) { s₂ with heap := h, toks := tk }) :
    wpAny (model prog w) A (pyIter xv) (fun it s₂ => wpAny (model prog w) A (newList []) (fun acc s₃ => wpAny (model prog w) A (newFunctionEnv scope env.globals cl [] env.qual none .none (some env)) (fun cenv s₄ =>
      codeAny (model prog w) A (.compStart (.ListComp elt [⟨.Name x px, iter, [], 0⟩] scope pos) 0 it acc { cenv with scope := relabel scope env }) (RR acc cenv.locals) s₄) E s₃) E s₂) E s₁ := by
  obtain ⟨n, P, news, it, hn, F, N, R⟩ := src
  refine it _ _ fun o St _ W hI st => ?_
  have here : ∀ b ∈ [s₁.heap.objs.size], b < (s₁.heap.push o).objs.size := fun b hb => by
    cases List.mem_singleton.mp hb
    rw [Heap.size_push]
    omega
  have apart : ∀ p ∈ news, p.1 ≠ s₁.heap.objs.size := fun p hp e => absurd (Heap.lt_size (N p hp).1) (by rw [e]; exact Nat.lt_irrefl _)
  exact LCg.block_U W hn hI (st_same W) hcell hkind hx st here (F.push _) (N.pushKeep _) (Nat.ne_of_lt F.ns.lt) (next_is_new F) apart trivial (R _ ⟨_, rfl⟩)
    fun D C h tk m' ys nw F₁ N₁ o1 ns c₀ _ cL _ cD offC hf => fin _ D C h tk m' ys nw F₁ ns c₀ cL (fun _ sb => F₁.change sb cL c₀) (fun _ sb => led_apart N₁ sb cD offC) o1 cD offC N₁ hf

theorem ListComp_W {elt iter : Expr} {x : Str} {px : Pos} {scope : Scope} {cl : List (Str × Addr)} {pos : Pos} {Q : Value → Shared → Prop} (_F₀ : Fr h₀ L s.heap m)
    (cl₀ : closureFor scope env = pure cl) (noCell : ∀ y ∈ scope.names, y.2 ≠ .cell) (fn : scope.kind = .function)
    (own : ∀ y ∈ scope.names, y.2 = .local → scope.names.lookup y.1 = some .local) (ownX : scope.names.lookup x = some .local)
    (h : wpAny (model prog w) A (eval iter env) (CSrc prog w A h₀ L m env elt x scope cl (fun s₂ => LCg.FinE h₀ L m s₂ Q)) E s)
    (unfolded : ∀ x, foldedSetIterable iter env x = pure x := by intro _; rfl) :
    wpAny (model prog w) A (eval (.ListComp elt [⟨.Name x px, iter, [], 0⟩] scope pos) env) Q E s :=
  (eval_ListComp ..) ▸ wpAny_comprehension_free (use := none) rfl unfolded cl₀ fn own
    (wpAny_mono h (fun _ _ src => run_W src noCell fn ownX fun _ D _ _ tk m' _ _ _ ns _ _ frs lds o1 _ _ _ hf => ⟨m', ns, fun h₂ sb => hf D h₂ tk (frs h₂ sb) (lds h₂ sb) o1⟩) fun _ _ e => e)

theorem Assign_ListComp_W {elt iter : Expr} {x y : Str} {px py : Pos} {scope : Scope} {cl : List (Str × Addr)} {pos spos : Pos} {Q : Flow → Shared → Prop} (_F₀ : Fr h₀ L s.heap m) (atL : env.locals = L)
    (sw : swapsWith (.ListComp elt [⟨.Name x px, iter, [], 0⟩] scope pos) (some (.Name y py)) spos.line env = pure true)
    (cl₀ : closureFor scope env = pure cl) (noCell : ∀ z ∈ scope.names, z.2 ≠ .cell) (fn : scope.kind = .function)
    (own : ∀ z ∈ scope.names, z.2 = .local → scope.names.lookup z.1 = some .local) (ownX : scope.names.lookup x = some .local)
    (locY : env.kindOf y = some .local) (plain : (env.scope.kind == .class || (env.scope.kind == .module && env.locals != env.globals)) = false)
    (h : wpAny (model prog w) A (eval iter env) (CSrc prog w A h₀ L m env elt x scope cl (fun s₂ => LCg.FinA h₀ L m s₂ y Q)) E s)
    (unfolded : ∀ x, foldedSetIterable iter env x = pure x := by intro _; rfl) :
    wpAny (model prog w) A (exec (.Assign [.Name y py] (.ListComp elt [⟨.Name x px, iter, [], 0⟩] scope pos) spos) env) Q E s := by
  cases atL
  have whole := wpAny_comprehension_free (M := model prog w) (A := A) (E := E) (s := s) (env := env) (e := .ListComp elt [⟨.Name x px, iter, [], 0⟩] scope pos) (pos := firstIterPos [⟨.Name x px, iter, [], 0⟩] pos) (newAcc := newList []) (use := some (assign (.Name y py) env)) (Q := fun _ s' => Q .next s') rfl unfolded cl₀ fn own
    (wpAny_mono h (fun _ s₁ src => run_W src noCell fn ownX fun s₂ D C h₁ tk m' ys nw F₁ ns c₀ cL _ _ o1 cD offC N₁ hf => by
      refine wpAny_assign_Name (wpAny_storeName_local locY F₁.ns (fun h₂ st₂ sb₂ => ?_) plain)
      have keep₂ : ∀ b o, h₀.get? b = some o → h₂.get? b = some o := fun b o e =>
        sb₂.extBut b o (fun q => absurd (q ▸ e) (by rw [Heap.get?_none_of_le F₁.above]; exact nofun)) (F₁.keep b o e)
      have F₂ : Fr h₀ env.locals h₂ (fun z => if z = y then some (.ref D) else m z) := ⟨st₂, keep₂, F₁.above⟩
      have N₂ : News h₀ env.locals h₂ ((D, LCg.lst ys) :: nw) := fun p hp => ⟨sb₂.extBut p.1 p.2 (N₁ p hp).2.1 (N₁ p hp).1, (N₁ p hp).2⟩
      exact ⟨m', ns.sameBut sb₂ cL, fun h₃ sb₃ => hf D h₃ _ (F₂.change sb₃ cL c₀) (led_apart N₂ sb₃ cD offC) o1⟩) fun _ _ e => e)
  rw [exec_Assign_Name_used _ _ _ _ sw]
  exact wpAny_bind (wpAny_standAt (wpAny_bind (wpAny_bind (wpAny_mono whole (fun _ _ q => wpAny_pure (wpAny_pure q)) fun _ _ e => e))))

theorem csrc_of {elt : Expr} {x : Str} {scope : Scope} {cl : List (Str × Addr)} {Fin : Shared → List Value → List (Addr × Obj) → Prop} {xv : Value} {s₁ : Shared} {n : Nat} {P : Nat → Value → Prop} {news : List (Addr × Obj)}
    (it : IterOf prog w A xv s₁ n P) (hn : n ≤ sizeLine) (F : Fr h₀ L s₁.heap m) (N : News h₀ L s₁.heap news)
    (R : ∀ g, LCg.CompRest prog w A h₀ L m env elt x scope cl { s₁ with heap := g } (fun _ => True) P (Fin { s₁ with heap := g }) n 0 [] news) :
    CSrc prog w A h₀ L m env elt x scope cl Fin xv s₁ := ⟨n, P, news, it, hn, F, N, fun _ ⟨g, e⟩ => e ▸ R g⟩

/-- each item's text by a function of its own -/
theorem rest_text {elt : Expr} {x : Str} {scope : Scope} {cl : List (Str × Addr)} {P : Nat → Value → Prop} {Fin : List Value → List (Addr × Obj) → Prop} {news : List (Addr × Obj)} {n : Nat} {ks : List Nat} (sv : Nat → Tok → Value) (g : Nat → Str) (hks : ks.length = n)
    (hP : ∀ i v, i < n → P i v → ∃ k t, ks[i]? = some k ∧ v = sv k t)
    (turn : ∀ k t I oI C oC D m₂ ys h tk (E' : Value → Shared → Prop), k ∈ ks → LCg.NsObj oC m₂ → m₂ x = some (sv k t) → Fr h₀ L h m → News h₀ L h ((I, oI) :: (C, oC) :: (D, LCg.lst ys) :: news) → LCg.Off3 I C D news → ((@Ne Nat I C) ∧ (@Ne Nat I D) ∧ (@Ne Nat C D)) →
      wpAny (model prog w) A (eval elt (compEnvC scope cl C env)) (LCg.CompEnd h₀ L m { s with heap := h, toks := tk } I oI C oC D (LCg.lst ys) (fun _ => True) (fun y news' => news' = news ∧ ∃ t, y = .str (g k) t)) E' { s with heap := h, toks := tk })
    (fin : ∀ ys, StrsAre ys (ks.map g) → Fin ys news) : LCg.CompRest prog w A h₀ L m env elt x scope cl s (fun _ => True) P Fin n 0 [] news := by
  have key : ∀ (j i : Nat) (ys : List Value), i + j = n → StrsAre ys ((ks.take i).map g) → LCg.CompRest prog w A h₀ L m env elt x scope cl s (fun _ => True) P Fin j i ys news := by
    intro j
    induction j with
    | zero =>
      intro i ys hi hy
      have e : i = ks.length := by omega
      subst e
      rw [List.take_length] at hy
      exact LCg.CompRest.zero (fin ys hy)
    | succ j ih =>
      intro i ys hi hy
      refine LCg.CompRest.succ ?_
      intro v I oI C oC D m₂ h tk E' hv hC hx F N off ne
      obtain ⟨k, t, hk, hv'⟩ := hP i v (by omega) hv
      rw [hv'] at hx
      refine wpAny_mono (turn k t I oI C oC D m₂ ys h tk E' (List.mem_of_getElem? hk) hC hx F N off ne) (fun y s₂ hq => ?_) fun _ _ e => e
      obtain ⟨h', tk', nw, e, F', N', off', hS, hn, t', hy'⟩ := hq
      rw [hn] at N' off'
      refine ⟨h', tk', news, e, F', N', off', hS, ?_⟩
      rw [hy']
      refine ih (i + 1) _ (by omega) ?_
      rw [List.take_add_one, hk]
      simpa using kct_snoc hy
  exact key n 0 [] (by omega) (by simp only [List.take_zero, List.map_nil]; exact .nil)
end
end Mine
end

section
open PySem PySem.W PyProof.Rows PySem.Calls PySem.Spec
set_option Elab.async false
set_option maxRecDepth 100000
namespace Mine
open PySem.Builtin PySem.Builtin._codecs

theorem encode_tree2 (x : Str) (t u : Tok) : «str.encode» ⟨[.str x t, .str (Str.ofString "utf-8") u], []⟩ = (do ret (← encodeRoad "str.encode" (.str x t) x (Str.ofString "utf-8") none)) := by kernel_rfl

theorem encode_one (id : String) (self : Value) (c : Nat) (hc : Str.isSurrogate c = false) : encodeNarrow id utf8Codec none self ⟨#[c]⟩ = pure (Str.utf8Of c).toArray := by
  unfold encodeNarrow
  simp only [Str.length, Std.Legacy.Range.forIn_eq_forIn_range']
  simp [Std.Legacy.Range.size, List.range', utf8Codec, hc]
theorem gives_encode (c : Nat) (t u : Tok) (hc : Str.isSurrogate c = false) : Gives («str.encode» ⟨[.str ⟨#[c]⟩ t, .str (Str.ofString "utf-8") u], []⟩) (.bytes (Str.utf8Of c).toArray) := by
  rw [encode_tree2, encodeRoad_utf8, encode_one _ _ _ hc]
  exact .of_eq rfl
theorem utf8_len (c : Nat) : (Str.utf8Of c).length ≤ 4 := by
  unfold Str.utf8Of
  (repeat' split) <;> simp only [List.length_cons, List.length_nil] <;> omega
section
variable {prog : Program} {w : World} {A : Around} {E : Value → Shared → Prop} {s : Shared}
theorem gm_encode {x : Str} {t : Tok} {pl : Sem Bool} {Q : Value × List Value → Shared → Prop} (h : Q (.builtin "str.encode", [.str x t]) s) : wpAny (model prog w) A (getMethod (.str x t) "encode" pl) Q E s :=
  getMethod_builtin (typeIs_str s x t) F.plainAttrs_str F.slot_str_encode F.type_str_encode (fun _ e => nomatch e) h
theorem call_encode {c : Nat} {t u : Tok} {Q : Value → Shared → Prop} (hc : Str.isSurrogate c = false) (h : Q (.bytes (Str.utf8Of c).toArray s.toks) { s with toks := s.toks + 1 }) :
    wpAny (model prog w) A (call (.builtin "str.encode") [.str ⟨#[c]⟩ t, .str (Str.ofString "utf-8") u]) Q E s :=
  call_gives F.slot_str_encode (typeIs_str _ _ _) F.entry_str_encode (F.args_str_encode_2 _ _) (gives_encode c t u hc) ⟨by
    show (Str.utf8Of c).toArray.size ≤ sizeLine
    have := utf8_len c
    rw [List.size_toArray, sizeLine_eq]; omega, h⟩
end
end Mine
end

section
open PySem PySem.W PyProof.Rows PySem.Calls PySem.Spec
set_option Elab.async false
set_option maxRecDepth 100000
namespace Mine
def hexU : List Nat := [48, 49, 50, 51, 52, 53, 54, 55, 56, 57, 65, 66, 67, 68, 69, 70]
def hx (n : Nat) : Nat := hexU.getD n 0
def hex2 (n : Nat) : Str := ⟨#[hx (n / 16), hx (n % 16)]⟩
def fs02 : PySem.Builtin.Float.FormatSpec := { fill := 48, align := 61, width := some 2, type := some 88 }
theorem parse02 : PySem.Builtin.Float.parseFormatSpec (Str.ofString "02X").cps.toList "int" 62 = .ok fs02 := by rfl
theorem fmt_tree (n : Nat) (hn : n < 256) (t u : Tok) : Builtin.«int.__format__» ⟨[.int (n : Int) t, .str (Str.ofString "02X") u], []⟩ = PySem.retStr (hex2 n) := by
  have : ∀ n : Nat, n < 256 → Builtin.«int.__format__» ⟨[.int (n : Int) t, .str (Str.ofString "02X") u], []⟩ = PySem.retStr (hex2 n) := by
    clear hn n
    intro n hn
    iterate 256 (rcases n with _ | n; · kernel_rfl)
    omega
  exact this n hn
theorem gives_fmt (n : Nat) (hn : n < 256) (t u : Tok) : Gives (Builtin.«int.__format__» ⟨[.int (n : Int) t, .str (Str.ofString "02X") u], []⟩) (.str (hex2 n)) := by
  rw [fmt_tree n hn]
  exact .of_eq rfl
section
variable {prog : Program} {w : World} {A : Around} {E : Value → Shared → Prop} {s : Shared}
theorem field_02 {n : Nat} {a : Int} {t : Tok} {Q : Value → Shared → Prop} (ha : a = (n : Int)) (hn : n < 256) (h : Q (.str (hex2 n) (s.toks + 1)) { s with toks := s.toks + 1 + 1 }) : wpAny (model prog w) A (formatField (.int a t) (Str.ofString "02X")) Q E s := by
  subst ha
  exact wpAny_formatField_spec (by decide) (fun s' => typeIs_int s' _ t) F.slot_int_format F.entry_int_format F.args_int_format_2 (gives_fmt n hn t) h (by decide) (show 2 ≤ sizeLine by decide)
end
end Mine
end

section
open PySem PySem.W PyProof.Rows PySem.Calls PySem.Spec
set_option Elab.async false
set_option maxRecDepth 100000
namespace Mine
open PySem.Builtin

/-- a walk, its turns counted from k -/
theorem walks_from {prog : Program} {w : World} {A : Around} {I : Addr} {fp wr : List Addr} {G : Array GenState → Array GenState → Prop} {n : Nat} {P : Nat → Value → Prop} {St : Nat → Shared → Prop}
    (W : WalksS prog w A I fp wr G n P St) (k : Nat) (P0 : Nat → Value → Prop) :
    WalksS prog w A I fp wr G (k + n) (fun i v => (i < k ∧ P0 i v) ∨ (k ≤ i ∧ P (i - k) v)) (fun i s => k ≤ i ∧ St (i - k) s) where
  sub := W.sub
  grefl := W.grefl
  gtrans := W.gtrans
  frame := fun i s h' tk st ht hk => ⟨st.1, W.frame _ s h' tk st.2 ht hk⟩
  item := fun i s Q E hi st hQ => W.item (i - k) s Q E (by have := st.1; omega) st.2 fun v s' hP st' hm =>
    hQ v s' (.inr ⟨st.1, hP⟩) ⟨by have := st.1; omega, by have e : i + 1 - k = i - k + 1 := by { have := st.1; omega }
                                                          rw [e]; exact st'⟩ hm
  done := fun s Q E st hQ => W.done s Q E (by have e : k + n - k = n := by omega
                                              rw [← e]; exact st.2) hQ
  self := fun i s Q E st hQ => W.self _ s Q E st.2 hQ

section
variable {prog : Program} {w : World} {A : Around} {E : Value → Shared → Prop} {s : Shared}
theorem hint_bytes {b : Array UInt8} {t : Tok} {Q : Bool → Shared → Prop} (h : Q false s) : wpAny (model prog w) A (Builtin.List.listLengthHint (.bytes b t)) Q E s := by
  unfold Builtin.List.listLengthHint
  refine wpAny_bind (wpAny_specialOf (typeIs_bytes s b t) FB.slot_bytes_len.lookup ?_)
  generalize hid : ("bytes.__len__" : String) = id0
  wp_delta
  rw [show splitId id0 = some ("bytes", "__len__") from by subst hid; decide +kernel]
  subst hid
  refine wpAny_bind (wpAny_isInstance (T := "bytes") (b := true) (typeIs_bytes s b t) (by rw [isSubtype_type]; kernel_rfl) ?_)
  refine wpAny_ite_split (fun hab => absurd hab (by decide)) (fun _ => ?_)
  refine wpAny_ite_split (fun _ => ?_) (fun hab => absurd (by decide +kernel) hab)
  refine wpAny_bind (wpAny_typeOf (typeIs_bytes s b t) ?_)
  exact wpAny_pure h

theorem ext_code {b : Array UInt8} {t : Tok} {S : Addr} {ys : Array Value} {c : Nat} {R : Result → Shared → Prop} (hh : A.handled = none) (hS : s.heap.get? S = some (listOf ys c)) (hn : ys.size + b.size ≤ sizeLine)
    (hR : ∀ h' tk acc' c', (∀ b o, b ≠ S → s.heap.get? b = some o → h'.get? b = some o) → h'.get? S = some (listOf acc' c') →
      acc'.size = ys.size + b.size → (∀ i v, acc'[i]? = some v → (i < ys.size ∧ ys[i]? = some v) ∨ (ys.size ≤ i ∧ ∃ c u, b[i - ys.size]? = some c ∧ v = .int (c.toNat : Int) u)) → R (.ok (.ret .none)) { s with heap := h', toks := tk }) :
    wpAny (model prog w) A.in1 (Builtin.«list.extend» ⟨[.ref S, .bytes b t], []⟩)
      (fun fin s' => match fin with | .done f => R (.ok f) s' | .again c' => c'.quiet = true ∧ codeAny (model prog w) A c' R s') (fun e s' => R (.error e) s') s := by
  show wpAny _ _ (Builtin.List.listExtendWith (.ref S) (.bytes b t) .none) _ _ _
  have hSI : S ≠ s.heap.objs.size := Nat.ne_of_lt (Heap.lt_size hS)
  have hSf : S ∉ [s.heap.objs.size] := by simpa using hSI
  unfold Builtin.List.listExtendWith
  refine wpAny_bind (wpAny_typeOf (T := "bytes") (typeIs_bytes s b t) ?_)
  simp only [show Builtin.List.listSameRef (.ref S) (.bytes b t) = false from rfl, show (Value.type "bytes" == Value.type "list") = false by decide, show (Value.type "bytes" == Value.type "tuple") = false by decide, Bool.or_false, Bool.false_eq_true, if_false]
  refine wpAny_bind (KBw.pyIter_bytes ?_)
  refine wpAny_bind (wpAny_holding (hint_bytes ?_))
  refine wpAny_ite_split (fun hab => absurd hab (by decide +kernel)) (fun _ => wpAny_pure ⟨plainId_quiet PySem.F.plain_extend_loop _, ?_⟩)
  refine codeAny_extend_loopS (walks_from (KBw.walks (A := A.in1) hh s.heap.objs.size b t).toS ys.size (fun i v => ys[i]? = some v)) (by omega) S hSf .none b.size ys.size _ ys c (by omega) (by omega)
    ⟨Nat.le_refl _, by rw [Nat.sub_self]; exact ⟨_, Heap.get?_push_size _ rfl, rfl, rfl⟩⟩ (Heap.get?_push_of_some _ hS) ⟨rfl, fun j v hj => .inl ⟨(Array.getElem?_eq_some_iff.mp hj).1, hj⟩⟩ fun s' acc' c' hm hS' hacc => ?_
  rw [Moved.eq_with hm]
  refine hR s'.heap s'.toks acc' c' (fun b' o hb e => hm.heap b' o (fun hmem => ?_) (Heap.get?_push_of_some _ e)) hS' hacc.1 hacc.2
  rcases List.mem_cons.mp hmem with e' | hmem
  · exact hb e'
  · exact absurd (Heap.lt_size e) (by rw [List.mem_singleton.mp hmem]; exact Nat.lt_irrefl _)

theorem ints_of_items {ys acc : Array Value} {ns : List Int} {b : Array UInt8} (hi : IntsAre ys.toList ns) (hz : acc.size = ys.size + b.size)
    (h : ∀ i v, acc[i]? = some v → (i < ys.size ∧ ys[i]? = some v) ∨ (ys.size ≤ i ∧ ∃ c u, b[i - ys.size]? = some c ∧ v = .int (c.toNat : Int) u)) :
    IntsAre acc.toList (ns ++ b.toList.map fun c => (c.toNat : Int)) := by
  have key : ∀ (vs : List Value) (ks : List Int), vs.length = ks.length → (∀ (i : Nat) (v : Value), vs[i]? = some v → ∃ (n : Int) (t : Tok), ks[i]? = some n ∧ v = Value.int n t) → IntsAre vs ks := by
    intro vs
    induction vs with
    | nil => intro ks hl _; cases ks with | nil => exact .nil | cons => cases hl
    | cons v vs ih =>
      intro ks hl h
      cases ks with
      | nil => cases hl
      | cons k ks =>
        obtain ⟨n, t, e, ev⟩ := h 0 v rfl
        cases e
        subst ev
        exact .cons _ _ (ih ks (by simpa using hl) fun i v hv => h (i + 1) v hv)
  have hl := hi.length
  rw [Array.length_toList] at hl
  refine key _ _ (by simp only [Array.length_toList, List.length_append, List.length_map]; omega) fun i v hv => ?_
  rw [Array.getElem?_toList] at hv
  rcases h i v hv with ⟨h1, h2⟩ | ⟨h1, c, u, h2, h3⟩
  · obtain ⟨n, t, e1, e2⟩ := IntsAre.at hi i v (by rw [Array.getElem?_toList]; exact h2)
    exact ⟨n, t, by rw [List.getElem?_append_left (by omega)]; exact e2, e1⟩
  · refine ⟨(c.toNat : Int), u, ?_, h3⟩
    rw [List.getElem?_append_right (by omega), ← hl, List.getElem?_map, Array.getElem?_toList, h2]
    rfl

theorem call_extend {h₀ : Heap} {L D : Addr} {m : Str → Option Value} {news : List (Addr × Obj)} {b : List UInt8} {t : Tok} {ys : Array Value} {c : Nat} {ns : List Int} {Q : Value → Shared → Prop} (hh : A.handled = none) (F : Fr h₀ L s.heap m) (N : News h₀ L s.heap ((D, listOf ys c) :: news)) (hne : ∀ p ∈ news, p.1 ≠ D) (hi : IntsAre ys.toList ns) (hn : ns.length + b.length ≤ sizeLine)
    (hQ : ∀ h' tk (ys' : Array Value) c', Fr h₀ L h' m → News h₀ L h' ((D, listOf ys' c') :: news) → IntsAre ys'.toList (ns ++ b.map fun c => (c.toNat : Int)) → Q .none { s with heap := h', toks := tk }) :
    wpAny (model prog w) A (call (.builtin "list.extend") [.ref D, .bytes b.toArray t]) Q E s := by
  have z := N _ (.head _)
  have hl := hi.length
  rw [Array.length_toList] at hl
  refine wpAny_call (codeAny_call_builtin PySem.F.slot_list_extend.plain PySem.F.entry_list_extend (PySem.F.slot_list_extend.check _ _ _ _ _ _ _ _ ⟨_, z.1, rfl⟩ (PySem.F.args_list_extend_2 _ _) ?_))
  refine ext_code (S := D) (b := b.toArray) (t := t) (ys := ys) (c := c) (R := fun r s' => match r with | .ok (.ret v) => Q v s' | .ok _ => False | .error e => E e s') hh z.1 (by rw [List.size_toArray]; exact (by omega : ys.size + b.length ≤ sizeLine)) fun h' tk acc' c' hk hS' hz hit => ?_
  have F' : Fr h₀ L h' m := by
    obtain ⟨oL, a1, a2, hoL, a3⟩ := F.ns
    refine ⟨⟨oL, a1, a2, hk L _ z.2.1.symm hoL, a3⟩, fun b o e => hk b o ?_ (F.keep b o e), F.above⟩
    rintro rfl
    rw [z.2.2] at e
    cases e
  refine hQ h' tk acc' c' F' (fun p hp => ?_) (ints_of_items hi hz hit)
  rcases List.mem_cons.mp hp with rfl | hp
  · exact ⟨hS', z.2⟩
  · exact ⟨hk _ _ (hne p hp) (N p (.tail _ hp)).1, (N p (.tail _ hp)).2⟩
end
end Mine
end

section
open PySem PySem.W PyProof.Rows PySem.Calls PySem.Spec
set_option Elab.async false
set_option maxRecDepth 100000
namespace Mine
open PySem.Builtin PySem.Builtin._codecs

def bytesL (u : List Nat) : List UInt8 := u.flatMap Str.utf8Of
theorem bytesL_app (u v : List Nat) : bytesL (u ++ v) = bytesL u ++ bytesL v := List.flatMap_append
theorem bytesL_cons (c : Nat) (v : List Nat) : bytesL (c :: v) = Str.utf8Of c ++ bytesL v := rfl
theorem utf8_one {c : Nat} (h : c < 128) : Str.utf8Of c = [c.toUInt8] := if_pos h
theorem utf8_two {c : Nat} (h : ¬ c < 128) (h2 : c < 2048) : Str.utf8Of c = [(192 + c / 64).toUInt8, (128 + c % 64).toUInt8] := by
  unfold Str.utf8Of
  rw [if_neg h, if_pos h2]
theorem utf8_three {c : Nat} (h : ¬ c < 2048) (h2 : c < 65536) : Str.utf8Of c = [(224 + c / 4096).toUInt8, (128 + c / 64 % 64).toUInt8, (128 + c % 64).toUInt8] := by
  unfold Str.utf8Of
  rw [if_neg (by omega), if_neg h, if_pos h2]
/-- the signs that these texts hold -/
def OkC (c : Nat) : Prop := c < 2048 ∨ (4096 ≤ c ∧ c < 53248)
theorem utf8_pos {c : Nat} : 1 ≤ (Str.utf8Of c).length := by
  unfold Str.utf8Of
  (repeat' split) <;> simp
theorem toU8 {n : Nat} (h : n < 256) : n.toUInt8.toNat = n := by
  show (UInt8.ofNat n).toNat = n
  rw [UInt8.toNat_ofNat']
  omega
theorem at_one (b : Array UInt8) (p c : Nat) (h : c < 128) (h0 : b.getD p 0 = c.toUInt8) : Bytes.utf8At b p = (.char c, p + 1) := by
  unfold Bytes.utf8At
  have e : (b.getD p 0).toNat = c := by rw [h0]; exact toU8 (by omega)
  simp only [e]
  rw [if_pos h]
theorem at_two (b : Array UInt8) (p c : Nat) (h : ¬ c < 128) (h2 : c < 2048) (h0 : b.getD p 0 = (192 + c / 64).toUInt8) (h1 : b[p + 1]? = some (128 + c % 64).toUInt8) : Bytes.utf8At b p = (.char c, p + 2) := by
  unfold Bytes.utf8At
  have e : (b.getD p 0).toNat = 192 + c / 64 := by rw [h0]; exact toU8 (by omega)
  have e1 : ((128 + c % 64).toUInt8).toNat = 128 + c % 64 := toU8 (by omega)
  simp only [e]
  rw [if_neg (by omega)]
  have hs : (decide (194 ≤ 192 + c / 64) && decide (192 + c / 64 ≤ 223)) = true := by simp only [Bool.and_eq_true, decide_eq_true_eq]; omega
  rw [if_pos hs]
  simp only [show (List.range 1).map (· + 1) = [1] from rfl, List.foldl_cons, List.foldl_nil, Except.bind, h1, e1]
  rw [if_pos (by simp only [beq_self_eq_true, if_true, Bool.and_eq_true, decide_eq_true_eq]; omega)]
  simp only [beq_self_eq_true, if_true]
  congr 2
  omega
theorem at_three (b : Array UInt8) (p c : Nat) (h : 4096 ≤ c) (h2 : c < 53248) (h0 : b.getD p 0 = (224 + c / 4096).toUInt8) (h1 : b[p + 1]? = some (128 + c / 64 % 64).toUInt8) (h3 : b[p + 2]? = some (128 + c % 64).toUInt8) : Bytes.utf8At b p = (.char c, p + 3) := by
  unfold Bytes.utf8At
  have e : (b.getD p 0).toNat = 224 + c / 4096 := by rw [h0]; exact toU8 (by omega)
  have e1 : ((128 + c / 64 % 64).toUInt8).toNat = 128 + c / 64 % 64 := toU8 (by omega)
  have e2 : ((128 + c % 64).toUInt8).toNat = 128 + c % 64 := toU8 (by omega)
  have f1 : 1 ≤ c / 4096 := by omega
  have f2 : c / 4096 ≤ 12 := by omega
  simp only [e]
  rw [if_neg (by omega)]
  rw [if_neg (by simp only [Bool.and_eq_true, decide_eq_true_eq]; omega), if_neg (by simp only [beq_iff_eq]; omega), if_neg (by simp only [beq_iff_eq]; omega), if_pos (by simp only [Bool.and_eq_true, decide_eq_true_eq]; omega)]
  simp only [show (List.range 2).map (· + 1) = [1, 2] from rfl, List.foldl_cons, List.foldl_nil, Except.bind, h1, e1]
  rw [if_pos (by simp only [beq_self_eq_true, if_true, Bool.and_eq_true, decide_eq_true_eq]; omega)]
  dsimp only
  simp only [h3, e2]
  rw [if_pos (by simp only [show ((2 : Nat) == 1) = false from rfl, Bool.false_eq_true, if_false, Bool.and_eq_true, decide_eq_true_eq]; omega)]
  simp only [show ((2 : Nat) == 1) = false from rfl, beq_self_eq_true, if_true, Bool.false_eq_true, if_false]
  congr 2
  omega
theorem utf8_at (d r : List Nat) (c : Nat) (hc : OkC c) : Bytes.utf8At (bytesL (d ++ c :: r)).toArray (bytesL d).length = (.char c, (bytesL (d ++ [c])).length) := by
  rw [bytesL_app, bytesL_cons, bytesL_app]
  by_cases h : c < 128
  · have e : bytesL [c] = [c.toUInt8] := by rw [show bytesL [c] = Str.utf8Of c ++ [] from rfl, utf8_one h]; rfl
    rw [utf8_one h, e, List.length_append]
    refine at_one _ _ c h ?_
    simp [Array.getD_eq_getD_getElem?]
  · by_cases hc2 : c < 2048
    · have e : bytesL [c] = [(192 + c / 64).toUInt8, (128 + c % 64).toUInt8] := by rw [show bytesL [c] = Str.utf8Of c ++ [] from rfl, utf8_two h hc2]; rfl
      rw [utf8_two h hc2, e, List.length_append]
      refine at_two _ _ c h hc2 ?_ ?_
      · simp [Array.getD_eq_getD_getElem?]
      · simp
    · have hc3 : 4096 ≤ c ∧ c < 53248 := hc.resolve_left hc2
      have e : bytesL [c] = [(224 + c / 4096).toUInt8, (128 + c / 64 % 64).toUInt8, (128 + c % 64).toUInt8] := by rw [show bytesL [c] = Str.utf8Of c ++ [] from rfl, utf8_three hc2 (by omega)]; rfl
      rw [utf8_three hc2 (by omega), e, List.length_append]
      refine at_three _ _ c hc3.1 hc3.2 ?_ ?_ ?_
      · simp [Array.getD_eq_getD_getElem?]
      · simp
      · simp
theorem dec_loop (u : List Nat) (hu : ∀ c ∈ u, OkC c) (b : Array UInt8) (hb : b = (bytesL u).toArray) (hz : u.length ≤ sizeLine) (F : Faults) (f : Nat → Nat × Array Nat × Faults → Sem (ForInStep (Nat × Array Nat × Faults)))
    (hd : ∀ x (st : Nat × Array Nat × Faults), b.size ≤ st.1 → st.2.1.size ≤ sizeLine → f x st = pure (.done st))
    (ht : ∀ x (st : Nat × Array Nat × Faults) c next, st.1 < b.size → st.2.1.size ≤ sizeLine → Bytes.utf8At b st.1 = (.char c, next) → f x st = pure (.yield (next, st.2.1 ++ [c].toArray, st.2.2))) :
    ∀ (l : List Nat) (d r : List Nat), u = d ++ r → r.length ≤ l.length → forIn l ((bytesL d).length, d.toArray, F) f = pure (b.size, u.toArray, F) := by
  intro l
  induction l with
  | nil =>
    intro d r e hl
    have : r = [] := List.eq_nil_of_length_eq_zero (by simpa using hl)
    subst this
    rw [List.append_nil] at e
    subst e
    rw [hb, List.size_toArray]
    rfl
  | cons x l ih =>
    intro d r e hl
    have hdz : d.toArray.size ≤ sizeLine := by rw [List.size_toArray]; rw [e, List.length_append] at hz; omega
    rw [List.forIn_cons]
    cases r with
    | nil =>
      rw [List.append_nil] at e
      subst e
      rw [hd x _ (by rw [hb, List.size_toArray]; exact Nat.le_refl _) hdz, hb, List.size_toArray]
      rfl
    | cons c r =>
      have hc : OkC c := hu c (by rw [e]; exact List.mem_append_right _ (.head _))
      have h1 : 1 ≤ (Str.utf8Of c).length := utf8_pos
      have hlt : (bytesL d).length < b.size := by
        rw [hb, List.size_toArray, e, bytesL_app, bytesL_cons, List.length_append, List.length_append]; omega
      rw [ht x _ c (bytesL (d ++ [c])).length hlt hdz (by rw [hb, e]; exact utf8_at d r c hc)]
      have h2 := ih (d ++ [c]) r (by rw [e, List.append_assoc]; rfl) (by simpa using hl)
      rw [← h2]
      show forIn l ((bytesL (d ++ [c])).length, d.toArray ++ [c].toArray, F) f = _
      rw [List.append_toArray]
theorem run_dec (id : String) (u : List Nat) (hu : ∀ c ∈ u, OkC c) (hz : u.length ≤ 100000) : runDecoder id utf8Decoder (some (Str.ofString "replace")) true (bytesL u).toArray 0 [] = pure (u.toArray, (bytesL u).length) := by
  have hz' : u.length ≤ sizeLine := by rw [sizeLine_eq]; omega
  have hlen : u.length ≤ (bytesL u).length := by
    clear hz hz'
    induction u with
    | nil => exact Nat.le_refl 0
    | cons c u ih =>
      have hc := hu c (.head _)
      have h2 := ih fun c h => hu c (.tail _ h)
      have h1 : 1 ≤ (Str.utf8Of c).length := utf8_pos
      rw [bytesL_cons, List.length_append, List.length_cons]; omega
  unfold runDecoder
  simp only [Std.Legacy.Range.forIn_eq_forIn_range']
  have key := dec_loop u hu (bytesL u).toArray rfl hz' {} (fun x __s => (do
            if __s.snd.fst.size > sizeLine then
              unsupported "str:memory"
            if __s.fst ≥ (bytesL u).toArray.size then pure (ForInStep.done (__s.fst, __s.snd.fst, __s.snd.snd))
                else
                  match utf8Decoder.find true (bytesL u).toArray __s.fst with
                  | Found.text cs nx => pure (ForInStep.yield (nx, __s.snd.fst ++ cs.toArray, __s.snd.snd))
                  | Found.refuse tag => do
                    unsupported (toString id ++ toString ":" ++ toString tag)
                    pure (ForInStep.yield (__s.fst, __s.snd.fst, __s.snd.snd))
                  | Found.bad stop reason mayGrow =>
                    if (mayGrow && !true) = true then do
                      rule (toString id ++ toString ".held-back")
                      pure (ForInStep.done (__s.fst, __s.snd.fst, __s.snd.snd))
                    else do
                      rule (toString id ++ toString ".fault")
                      let __x ←
                        decodeFault id __s.snd.snd (some (Str.ofString "replace")) utf8Decoder.own utf8Decoder.name
                            (bytesL u).toArray __s.fst stop reason
                      pure (ForInStep.yield (__x.2.snd, __s.snd.fst ++ __x.2.fst, __x.fst)))) ?_ ?_ (List.range' 0 [:(bytesL u).toArray.size].size) [] u rfl ?_
  · have e : bytesL [] = [] := rfl
    rw [e] at key
    refine (congrArg (fun z => z >>= fun __s => pure (__s.snd.fst, __s.fst)) key).trans ?_
    rw [List.size_toArray]
    rfl
  · intro x st h1 h2
    rw [if_neg (by omega)]
    show (if st.fst ≥ _ then _ else _) = _
    rw [if_pos h1]
  · intro x st c next h1 h2 h3
    rw [if_neg (by omega)]
    show (if st.fst ≥ _ then _ else _) = _
    rw [if_neg (by omega)]
    have e : utf8Decoder.find true (bytesL u).toArray st.fst = .text [c] next := by
      show (match Bytes.utf8At (bytesL u).toArray st.fst with
        | (.char c, nx) => Found.char c nx
        | (.bad _ stop reason, _) => _) = _
      rw [h3]
      rfl
    rw [e]
  · simp [Std.Legacy.Range.size]; exact hlen
theorem entry_dec (c : UInt8) (cs : List UInt8) (t t1 t2 : Tok) : «bytes.decode» ⟨[.bytes (c :: cs).toArray t, .str (Str.ofString "utf-8") t1, .str (Str.ofString "replace") t2], []⟩ = (mkStr (Str.ofString "utf-8") >>= fun _ => mkStr (Str.ofString "utf-8") >>= fun e => mkStr (Str.ofString "replace") >>= fun r => mkStr (Str.ofString "bytes.decode") >>= fun d =>
    call (.builtin "_codecs.decode.text") [.bytes (c :: cs).toArray t, e, r, d] >>= fun v => ret v) := by kernel_rfl
theorem entry_nil (t t1 t2 : Tok) : «bytes.decode» ⟨[.bytes #[] t, .str (Str.ofString "utf-8") t1, .str (Str.ofString "replace") t2], []⟩ = (rule "bytes.decode.empty" >>= fun _ => retStr Str.empty) := by kernel_rfl
theorem road_rep {id : String} (b : Array UInt8) : decodeRoad id b (Str.ofString "utf-8") (some (Str.ofString "replace")) [] = (runDecoder id utf8Decoder (some (Str.ofString "replace")) true b 0 [] >>= fun r => mkStr ⟨r.1⟩) := by kernel_rfl
theorem meets_rep {b : Array UInt8} {t t1 t2 t3 : Tok} {d x : PySem.Str} {n : Nat} (hd : ∀ id, runDecoder id utf8Decoder (some (Str.ofString "replace")) true b 0 [] = pure (x.cps, n)) :
    Meets («_codecs.decode.text» ⟨[.bytes b t, .str (Str.ofString "utf-8") t1, .str (Str.ofString "replace") t3, .str d t2], []⟩) (fun _ R s => x.length ≤ sizeLine ∧ R (.ok (.ret (.str x s.toks))) { s with toks := s.toks + 1 }) := by
  refine .of_wp fun prog w A R s hS => ?_
  obtain ⟨hsz, h⟩ := hS
  show wpAny _ _ (Bytes.bytesLike _ (.bytes b t) >>= fun r => _) _ _ s
  refine wpAny_bind (wpAny_of_eq KBd.like_eq ?_)
  refine wpAny_bind (wpAny_of_eq KBd.held_eq ?_)
  show wpAny _ _ (decodeRoad _ b (Str.ofString "utf-8") (some (Str.ofString "replace")) [] >>= fun v => _) _ _ s
  rw [road_rep, hd]
  refine wpAny_bind (wpAny_bind (wpAny_pure ?_))
  exact wpAny_mkStr (wpAny_pure ⟨_, rfl, h⟩) hsz
theorem args_bytes_decode_3 (a b c : Value) : argsOk "bytes.decode" ⟨[a, b, c], []⟩ := by unfold argsOk; kernel_rfl
section
variable {prog : Program} {w : World} {A : Around} {E : Value → Shared → Prop} {s : Shared}
theorem call_decode {u : List Nat} {t t1 t2 : Tok} {Q : Value → Shared → Prop} (hu : ∀ c ∈ u, OkC c) (hz : u.length ≤ 100000) (h : ∀ t' k, Q (.str ⟨u.toArray⟩ t') { s with toks := k }) :
    wpAny (model prog w) A (call (.builtin "bytes.decode") [.bytes (bytesL u).toArray t, .str (Str.ofString "utf-8") t1, .str (Str.ofString "replace") t2]) Q E s := by
  have hsz : (⟨u.toArray⟩ : Str).length ≤ sizeLine := by rw [sizeLine_eq]; show u.toArray.size ≤ _; rw [List.size_toArray]; omega
  suffices hm : Meets («bytes.decode» ⟨[.bytes (bytesL u).toArray t, .str (Str.ofString "utf-8") t1, .str (Str.ofString "replace") t2], []⟩) (fun _ R s => ∀ t' k, R (.ok (.ret (.str ⟨u.toArray⟩ t'))) { s with toks := k }) from call_meets FB.slot_bytes_decode (typeIs_bytes _ _ _) FB.entry_bytes_decode (args_bytes_decode_3 _ _ _) hm h
  clear h
  refine .of_wp fun prog w A R s h => ?_
  have hd := fun id => run_dec id u hu hz
  generalize hbs : bytesL u = bs at hd
  cases bs with
  | nil =>
    rw [entry_nil]
    have e : u = [] := by
      cases u with
      | nil => rfl
      | cons c u =>
        exfalso
        rw [bytesL_cons] at hbs
        have h1 : (Str.utf8Of c) = [] := (List.append_eq_nil_iff.mp hbs).1
        unfold Str.utf8Of at h1
        repeat' (split at h1)
        all_goals cases h1
    subst e
    refine wpAny_bind (wpAny_rule ?_)
    show wpAny _ _ (mkStr Str.empty >>= fun v => ret v) _ _ s
    exact wpAny_bind (wpAny_mkStr (wpAny_pure ⟨_, rfl, h _ _⟩) (by decide))
  | cons c cs =>
    rw [entry_dec]
    refine wpAny_bind (wpAny_mkStr ?_ (by decide))
    refine wpAny_bind (wpAny_mkStr ?_ (by decide))
    refine wpAny_bind (wpAny_mkStr ?_ (by decide))
    refine wpAny_bind (wpAny_mkStr ?_ (by decide))
    exact wpAny_bind (call_function_meets KBd.kind_text KBd.plain_text KBd.entry_text (KBd.args_text _ _ _ _) (meets_rep (x := ⟨u.toArray⟩) hd) ⟨hsz, wpAny_pure ⟨_, rfl, h _ _⟩⟩)
end
end Mine
end

section
open PySem PySem.W PyProof.Rows PySem.Calls PySem.Spec
set_option Elab.async false
set_option maxRecDepth 100000
namespace Mine
open PySem.Builtin PySem.Builtin.Str
section
variable {prog : Program} {w : World} {A : Around} {E : Value → Shared → Prop} {s : Shared}
theorem call_starts {a : Addr} {x : Str} {t : Tok} {items : Array Value} {ys : List Str} {Q : Value → Shared → Prop} (ht : IsTup s.heap a items) (hi : StrsAre items.toList ys) (h : Q (.bool (ys.any fun y => Txt.startswith x y)) s) :
    wpAny (model prog w) A (call (.builtin "str.startswith") [.str x t, .ref a]) Q E s := by
  refine wpAny_call (codeAny_call_builtin F.slot_str_startswith.plain F.entry_str_startswith (F.slot_str_startswith.check _ _ _ _ _ _ _ _ (typeIs_str _ _ _) (F.args_str_startswith_2 _ _) ?_))
  unfold Builtin.«str.startswith» affixEntry
  refine wpAny_bind (m := strSomeArgs _ _ _ _) (wpAny_pure ?_)
  dsimp only [List.headD_cons, List.drop_one, List.tail_cons]
  refine wpAny_bind (m := searchRange _ _) (wpAny_pure ?_)
  dsimp only
  refine wpAny_bind (m := asStr? _) ?_
  obtain ⟨o, ho, hc, n, hd⟩ := ht
  unfold asStr?
  refine wpAny_bind (wpAny_load ho ?_)
  rw [hd]
  refine wpAny_pure ?_
  dsimp only
  refine wpAny_bind (wpAny_isInstance (T := "tuple") (b := true) ⟨o, ho, hc⟩ (by rw [isSubtype_type]; kernel_rfl) ?_)
  refine wpAny_pos rfl ?_
  refine wpAny_bind (wpAny_rule ?_)
  refine wpAny_bind (wpAny_seqItems ho hd ?_)
  dsimp only
  refine wpAny_bind (forIn_array_ _ (fun rest b s' => s' = s ∧ b = (none, ()) ∧ ∃ zs, StrsAre rest zs ∧ ys.any (fun y => Txt.startswith x y) = zs.any (fun y => Txt.startswith x y)) _ (fun v rest b s' hI => ?_) (fun b s' hI => ?_) items _ ⟨rfl, rfl, ys, hi, rfl⟩)
  · obtain ⟨rfl, rfl, zs, hz, hys⟩ := hI
    cases hz with
    | cons z t hz =>
      refine wpAny_bind (wpAny_pure ?_)
      dsimp only
      have e0 : (decide (Int.toNat 0 + z.length ≤ Min.min ((x.length : Nat) : Int).toNat x.length) && subAt x z (Int.toNat 0)) = Txt.startswith x z := by
        rw [Int.toNat_natCast, Nat.min_self]
        rfl
      cases hb : Txt.startswith x z with
      | true =>
        refine wpAny_pos (e0.trans hb) ?_
        refine wpAny_bind (m := ret _) (wpAny_pure (wpAny_pure (wpAny_pure ?_)))
        show Q (.bool true) s'
        rw [List.any_cons, hb, Bool.true_or] at hys
        rw [hys] at h
        exact h
      | false =>
        refine wpAny_neg (fun hc => ?_) (wpAny_pure ⟨rfl, rfl, _, hz, ?_⟩)
        · exact Bool.false_ne_true ((e0.trans hb).symm.trans hc)
        · rw [List.any_cons, hb, Bool.false_or] at hys
          exact hys
  · obtain ⟨rfl, rfl, zs, hz, hys⟩ := hI
    cases hz
    rw [hys] at h
    exact wpAny_pure h
end
end Mine
end

section
open PySem PySem.W PyProof.Rows PySem.Calls PySem.Spec
set_option Elab.async false
set_option maxRecDepth 100000
namespace Mine
def replF (c : Nat) (z : List Nat) (l : List Nat) : List Nat := l.flatMap fun k => if k = c then z else [k]
theorem replF_free (c : Nat) (z : List Nat) : ∀ l : List Nat, c ∉ l → replF c z l = l
  | [], _ => rfl
  | k :: r, h => by
    have ih := replF_free c z r fun m => h (List.mem_cons_of_mem _ m)
    unfold replF at ih ⊢
    rw [List.flatMap_cons, ih, if_neg (fun e : k = c => h (e ▸ List.mem_cons_self ..))]
    rfl
theorem replF_app (c : Nat) (z a b : List Nat) : replF c z (a ++ b) = replF c z a ++ replF c z b := List.flatMap_append
theorem replF_join (c : Nat) (z : Str) : ∀ parts : List Str, (∀ p ∈ parts, c ∉ p.cps.toList) → replF c z.cps.toList (Str.join ⟨#[c]⟩ parts).cps.toList = (Str.join z parts).cps.toList
  | [], _ => rfl
  | [p], h => replF_free c _ _ (h p (List.mem_singleton.mpr rfl))
  | p :: q :: r, h => by
    have ih := replF_join c z (q :: r) fun a ha => h a (List.mem_cons_of_mem _ ha)
    show replF c z.cps.toList (p ++ ⟨#[c]⟩ ++ Str.join ⟨#[c]⟩ (q :: r)).cps.toList = (p ++ z ++ Str.join z (q :: r)).cps.toList
    simp only [Str.cps_append, Array.toList_append]
    rw [replF_app, replF_app, ih, replF_free c _ _ (h p (List.mem_cons_self ..))]
    show p.cps.toList ++ replF c z.cps.toList [c] ++ _ = _
    have : replF c z.cps.toList [c] = z.cps.toList := by simp [replF]
    rw [this]
theorem replace_flat (x z : Str) (c : Nat) : (Txt.replace x ⟨#[c]⟩ z).cps.toList = replF c z.cps.toList x.cps.toList := by
  rw [StrLaws.replace_one, ← replF_join c z _ (StrLaws.split_free x c), StrLaws.join_split]
theorem replF_len (c : Nat) (z : List Nat) (hz : 1 ≤ z.length) : ∀ l : List Nat, (replF c z l).length ≤ z.length * l.length
  | [] => by simp [replF]
  | k :: r => by
    have ih := replF_len c z hz r
    unfold replF at ih ⊢
    rw [List.flatMap_cons, List.length_append, List.length_cons, Nat.mul_succ]
    split
    · omega
    · simp only [List.length_cons, List.length_nil]; omega
theorem replace_len {x z : Str} {c n : Nat} (hz : 1 ≤ z.length) (hx : x.length ≤ n) : (Txt.replace x ⟨#[c]⟩ z).length ≤ z.length * n := by
  have h := replF_len c z.cps.toList (by rw [Array.length_toList]; exact hz) x.cps.toList
  rw [← replace_flat, Array.length_toList, Array.length_toList, Array.length_toList] at h
  exact Nat.le_trans h (Nat.mul_le_mul_left _ hx)

def escC (c : Nat) : List Nat := if c = 38 then [38, 97, 109, 112, 59] else if c = 60 then [38, 108, 116, 59] else if c = 62 then [38, 103, 116, 59] else if c = 34 then [38, 113, 117, 111, 116, 59] else [c]
def escL (l : List Nat) : List Nat := l.flatMap escC
theorem replF_replF (c d : Nat) (z y l : List Nat) : replF c z (replF d y l) = l.flatMap fun k => replF c z (if k = d then y else [k]) := by
  unfold replF
  rw [List.flatMap_assoc]
theorem esc_flat (l : List Nat) : replF 34 [38, 113, 117, 111, 116, 59] (replF 62 [38, 103, 116, 59] (replF 60 [38, 108, 116, 59] (replF 38 [38, 97, 109, 112, 59] l))) = escL l := by
  unfold replF escL
  rw [List.flatMap_assoc, List.flatMap_assoc, List.flatMap_assoc]
  congr 1
  funext k
  unfold escC
  by_cases h1 : k = 38
  · subst h1; rfl
  by_cases h2 : k = 60
  · subst h2; rfl
  by_cases h3 : k = 62
  · subst h3; rfl
  by_cases h4 : k = 34
  · subst h4; rfl
  simp [h1, h2, h3, h4]
def escF (x : Str) : Str := Txt.replace (Txt.replace (Txt.replace (Txt.replace x ⟨#[38]⟩ ⟨#[38, 97, 109, 112, 59]⟩) ⟨#[60]⟩ ⟨#[38, 108, 116, 59]⟩) ⟨#[62]⟩ ⟨#[38, 103, 116, 59]⟩) ⟨#[34]⟩ ⟨#[38, 113, 117, 111, 116, 59]⟩
theorem escF_eq (x : Str) : escF x = ⟨(escL x.cps.toList).toArray⟩ := by
  apply Str.ext'
  apply Array.ext'
  rw [List.toList_toArray, ← esc_flat]
  unfold escF
  rw [replace_flat, replace_flat, replace_flat, replace_flat]
/-- a text no longer than this -/
theorem rep_ok {x : Str} {n : Nat} (z : Str) (hx : x.length ≤ n) (hn : n + (n + 1) * z.length ≤ 16777216) : x.length + (x.length + 1) * z.length ≤ 16777216 :=
  Nat.le_trans (Nat.add_le_add hx (Nat.mul_le_mul_right _ (Nat.succ_le_succ hx))) hn

local macro_rules | `(tactic| walk_at "execs cons") => `(tactic| (k_here; (first | (with_reducible show wpAny _ _ _ _ _ (Shared.mk _ _ _ (HAdd.hAdd _ _) _)) | (with_reducible show wpAny _ _ _ _ _ (Shared.mk _ _ _ (Shared.toks _) _))); (with_reducible refine tokGen (by omega) ?_); intro tk hTk))
local macro_rules | `(tactic| walk_at "execs nil") => `(tactic| (k_here; (first | (with_reducible show wpAny _ _ _ _ _ (Shared.mk _ _ _ (HAdd.hAdd _ _) _)) | (with_reducible show wpAny _ _ _ _ _ (Shared.mk _ _ _ (Shared.toks _) _))); (with_reducible refine tokGen (by omega) ?_); intro tk hTk))
local macro_rules | `(tactic| walk_at "call builtin:str.replace") => `(tactic| (k_here; refine' replaceT ?k1 ?k2 ?k3 ?k4 ?_; (case k1 => omega); (case k2 => exact rfl); (case k3 => decide +kernel); (case k4 => first | exact rep_ok _ (by assumption) (by decide) | exact rep_ok _ (replace_len (by decide) (by assumption)) (by decide) | exact rep_ok _ (replace_len (by decide) (replace_len (by decide) (by assumption))) (by decide) | exact rep_ok _ (replace_len (by decide) (replace_len (by decide) (replace_len (by decide) (by assumption)))) (by decide)); intro t' k' hk'; dsimp only at hk'))
set_option maxHeartbeats 8000000 in
theorem escape_spec (w : World) (x : Str) (tk : Tok) : Spec1 w 2 137 (x.length ≤ 10000) [.str x tk] (fun t => .str ⟨(escL x.cps.toList).toArray⟩ t) := by
  unfold Spec1 SpecN
  w_top off
  k_fill
  intro p loose mean mg mb dp un gd cn cs a ccd cl outer A₀ base h₀ L m news s Q E B F X N T hk hP hd hu hTk hret
  rw [← escF_eq] at hret
  refine wpAny_call (codeAny_toks ?_)
  k_dflt (refine' code_def ?k1 ?k2 ?k3 ?k4 ?k5 ?kA ?kF ?kK ?k6 ?k7 ?k8 ?k9 ?kB ?_ ?c2 ?c3 ?c4 ?c5; (case kA => exact rfl); (case kF => exact rfl); (case kK => first | exact rfl | assumption); (case k1 => k_asm); (case k2 => k_asm); (case k3 => k_asm); (case k4 => k_asm); (case k5 => k_asm); (case k6 => k_is); (case k7 => k_is); (case k8 => first | ktr_room); (case k9 => first | exact BindsTo.of_eq rfl | exact binds_K (by k_in) rfl (by k_is) rfl rfl rfl); (case c5 => decide); (case kB => exact locs rfl); (case c2 => exact rfl); (case c3 => exact rfl); (case c4 => exact rfl); k_whole; intro g' L' h' FG' F' N' B' X' T'; (try dsimp only); (try k_lift B'); (try k_fold))
  k_steps
  all_goals (refine Ret.end hret (by assumption) (by k_asm) (by (first | k_asm | (refine cb_drop (by k_asm) (fun p hp => ?_); repeat (first | exact hp | refine List.Mem.tail _ ?_)))) ?_; try exact ⟨_, rfl⟩)
end Mine
end

section
open PySem PySem.W PyProof.Rows PySem.Calls PySem.Spec
set_option Elab.async false
set_option maxRecDepth 100000
namespace Mine
open PySem.Builtin PySem.Builtin.Re

section
variable {prog : Program} {w : World} {A : Around} {E : Value → Shared → Prop} {s : Shared} {h₀ : Heap} {L : Addr} {m : Str → Option Value} {news : List (Addr × Obj)}
theorem gm_group {a tp : Addr} {x : Str} {tk : Tok} {lim : Nat} {pl : Sem Bool} {Q : Value × List Value → Shared → Prop} (N : News h₀ L s.heap news) (h1 : (a, matchObj x tk lim tp) ∈ news) (h : Q (.builtin "re.Match.group", [.ref a]) s) :
    wpAny (model prog w) A (getMethod (.ref a) "group" pl) Q E s :=
  getMethod_builtin (T := "re.Match") ⟨_, (N _ h1).1, rfl⟩ plainAttrs_match slot_match_group type_match_group (fun b e => by cases e; exact ⟨_, (N _ h1).1, rfl⟩) h
theorem call_group {a tp : Addr} {x : Str} {tk t : Tok} {lim st en b e : Nat} {Q : Value → Shared → Prop} (N : News h₀ L s.heap news) (h1 : (a, matchObj x tk lim tp) ∈ news) (h2 : (tp, spansObj st en b e) ∈ news) (hx : x.cps.size ≤ 100000) {y : Str} (hy : ⟨x.cps.extract b e⟩ = y)
    (h : Q (.str y s.toks) { s with toks := s.toks + 1 }) :
    wpAny (model prog w) A (call (.builtin "re.Match.group") [.ref a, .int 1 t]) Q E s := by
  refine wpAny_call (codeAny_call_builtin slot_match_group.plain entry_match_group (slot_match_group.check _ _ _ _ _ _ _ _ ⟨_, (N _ h1).1, rfl⟩ (args_match_group_2 _ _) ?_))
  unfold Builtin.«re.Match.group»
  refine wpAny_bind (m := noKeywords _ _) (wpAny_pure ?_)
  dsimp only
  unfold reFound
  refine wpAny_bind (wpAny_bind (wpAny_fieldsOf (N _ h1).1 rfl ?_))
  refine wpAny_bind ?_
  show wpAny _ _ (reRawItems (.ref tp)) _ _ _
  unfold reRawItems
  refine wpAny_bind (wpAny_seqItems (N _ h2).1 rfl ?_)
  refine wpAny_pure (wpAny_pure ?_)
  have e0 : Array.map reRawOf ((some #[rawInt (st : Int), rawInt (en : Int), rawInt (b : Int), rawInt (e : Int)]).getD #[]) = #[(st : Int), (en : Int), (b : Int), (e : Int)] := by simp [reRawOf, rawInt]
  rw [e0]
  refine wpAny_bind (m := reGroupNumber _ _) ?_
  unfold reGroupNumber
  refine wpAny_bind (m := asInt? (.int 1 t)) (wpAny_pure ?_)
  refine wpAny_pos rfl ?_
  refine wpAny_bind (m := asIndex (.int 1 t)) (wpAny_pure ?_)
  refine wpAny_neg (by simp) ?_
  refine wpAny_pure ?_
  refine wpAny_bind (m := reGroupText _ _ _) ?_
  unfold reGroupText
  dsimp only
  refine wpAny_neg (by
    show ¬ (decide (((b : Nat) : Int) < 0) || decide (((e : Nat) : Int) < 0)) = true
    rw [decide_eq_false (by omega), decide_eq_false (by omega)]; decide) ?_
  refine wpAny_bind (m := reTextOf _) (wpAny_pure ?_)
  show wpAny _ _ (reSlice x.cps 0 ((b : Int)).toNat ((e : Int)).toNat) _ _ _
  rw [Int.toNat_natCast, Int.toNat_natCast]
  refine wpAny_slice hx ?_
  rw [hy]
  exact wpAny_pure h
end

local macro_rules | `(tactic| walk_at "execs cons") => `(tactic| (k_here; (first | (with_reducible show wpAny _ _ _ _ _ (Shared.mk _ _ _ (HAdd.hAdd _ _) _)) | (with_reducible show wpAny _ _ _ _ _ (Shared.mk _ _ _ (Shared.toks _) _))); (with_reducible refine tokGen (by omega) ?_); intro tk hTk))
local macro_rules | `(tactic| walk_at "execs nil") => `(tactic| (k_here; (first | (with_reducible show wpAny _ _ _ _ _ (Shared.mk _ _ _ (HAdd.hAdd _ _) _)) | (with_reducible show wpAny _ _ _ _ _ (Shared.mk _ _ _ (Shared.toks _) _))); (with_reducible refine tokGen (by omega) ?_); intro tk hTk))
local macro_rules | `(tactic| walk_at "getMethod ref") => `(tactic| (k_here; (with_reducible show wpAny _ _ (getMethod (Value.ref _) (Str.ofString "group") _) _ _ _); refine' gm_group (by k_asm) (by assumption) ?_))
local macro_rules | `(tactic| walk_at "call builtin:re.Match.group") => `(tactic| (k_here; refine' call_group (by k_asm) (by assumption) (by assumption) (by assumption) (by assumption) ?_))
local macro_rules | `(tactic| walk_at "subscriptTail") => `(tactic| (k_here; (with_reducible show wpAny _ _ (subscriptTail _ _ (Value.str _ _) (Value.int _ _)) _ _ _); refine' itemT (by decide) (by first | decide | (simp only [Str.length, List.size_toArray, List.length_cons]; omega)) (by first | decide | (simp only [Str.length, List.size_toArray, List.length_cons]; omega)) rfl ?_))
local macro_rules | `(tactic| walk_at "binaryOp Add str str") => `(tactic| (k_here; refine' SB.add ?k1 ?k2; (case k2 => (rw [sizeLine_eq]; simp only [Str.length, List.size_toArray, List.length_cons] at *; first | omega | (have e9 : (Str.ofString "&").cps.size = 1 := rfl; omega))); intro t' k'))
local macro_rules | `(tactic| walk_at "ite") => `(tactic| (k_here; (first | refine ite_pos (by assumption) ?_ | refine ite_neg (by assumption) ?_ | (k_closed; first | refine ite_pos (by decide +kernel) ?_ | refine ite_neg (by decide +kernel) ?_))))
local macro_rules | `(tactic| walk_at "call type:int") => `(tactic| (k_here; (with_reducible show wpAny _ _ (call (Value.type "int") [Value.str _ _, Value.int _ _]) _ _ _); refine' call_hex (a := 51) (b := 99) rfl ⟨by decide, by decide⟩ ?_))
theorem flat_str {v : Value} {y : Str} (h : PyProof.V.Flat v (PyData.str y)) : ∃ t, v = .str y t := by
  have h' := h ⟨#[], {}⟩
  cases h'
  exact ⟨_, rfl⟩
abbrev namedD : List (PyData × PyData) := [(PyData.str { cps := #[97, 109, 112, 59] }, PyData.str { cps := #[38] }),
            (PyData.str { cps := #[108, 116, 59] }, PyData.str { cps := #[60] }),
            (PyData.str { cps := #[103, 116, 59] }, PyData.str { cps := #[62] }),
            (PyData.str { cps := #[113, 117, 111, 116, 59] }, PyData.str { cps := #[34] }),
            (PyData.str { cps := #[99, 111, 112, 121, 59] }, PyData.str { cps := #[169] }),
            (PyData.str { cps := #[110, 98, 115, 112, 59] }, PyData.str { cps := #[160] })]
theorem named_eq (c : Nat) (r : List Nat) (hc : c ≠ 35) : (Spec.lookup (PyData.str { cps := (c :: r).toArray }) namedD).getD (PyData.str (Str.ofString "&" ++ { cps := (c :: r).toArray })) = PyData.str ⟨(replL (c :: r)).toArray⟩ := by
  have ea : ∀ l : List Nat, Spec.same (PyData.str ⟨l.toArray⟩) (PyData.str { cps := (c :: r).toArray }) = decide (c :: r = l) := by
    intro l
    rw [PyProof.V.same_str]
    by_cases h : c :: r = l
    · rw [h]; simp
    · rw [decide_eq_false h, decide_eq_false]
      intro e
      injection e with e
      exact h (by simpa using e.symm)
  have e1 : Str.ofString "&" ++ ({ cps := (c :: r).toArray } : Str) = ⟨(38 :: c :: r).toArray⟩ := by
    apply Str.ext'
    rw [Str.cps_append]
    show #[38] ++ (c :: r).toArray = _
    simp
  have l1 := ea [97, 109, 112, 59]
  have l2 := ea [108, 116, 59]
  have l3 := ea [103, 116, 59]
  have l4 := ea [113, 117, 111, 116, 59]
  have l5 := ea [99, 111, 112, 121, 59]
  have l6 := ea [110, 98, 115, 112, 59]
  have h7 : c :: r ≠ [35, 54, 53, 59] := fun e => hc (List.cons.inj e).1
  have h8 : c :: r ≠ [35, 120, 51, 99, 59] := fun e => hc (List.cons.inj e).1
  unfold namedD replL
  simp only [Spec.lookup, l1, l2, l3, l4, l5, l6, e1, decide_eq_true_eq]
  rw [if_neg h7, if_neg h8]
  (repeat' split) <;> rfl
local macro_rules | `(tactic| walk_at "binaryOp Add str str") => `(tactic| (k_here; refine' SB.add ?k1 ?k2; (case k2 => (rw [sizeLine_eq]; simp only [Str.length, List.size_toArray, List.length_cons] at *; first | omega | (have e9 : (Str.ofString "&").cps.size = 1 := rfl; omega))); intro t' k'))
local macro_rules | `(tactic| walk_at "ite") => `(tactic| (k_here; (first | refine ite_pos (by assumption) ?_ | refine ite_neg (by assumption) ?_ | (k_closed; first | refine ite_pos (by decide +kernel) ?_ | refine ite_neg (by decide +kernel) ?_))))
local macro_rules | `(tactic| walk_at "call type:int") => `(tactic| (k_here; (with_reducible show wpAny _ _ (call (Value.type "int") [Value.str _ _, Value.int _ _]) _ _ _); refine' call_hex (a := 51) (b := 99) rfl ⟨by decide, by decide⟩ ?_))
set_option maxHeartbeats 8000000 in
theorem charref_a (w : World) (x : Str) (tk : Tok) (a tp : Addr) (st en b e : Nat) (hx : x.cps.size ≤ 100000) (c : Nat) (r : List Nat) (hcr : (⟨x.cps.extract b e⟩ : Str) = ⟨(c :: r).toArray⟩) (hlen : r.length ≤ 100000) (hc : c ≠ 35) :
    SpecN w 2 66 (fun news => (a, matchObj x tk x.cps.size tp) ∈ news ∧ (tp, spansObj st en b e) ∈ news) [.ref a] (fun t => .str ⟨(replL (c :: r)).toArray⟩ t) := by
  unfold SpecN
  w_top off
  k_fill
  intro p loose mean mg mb dp un gd cn cs ac ccd cl outer A₀ base h₀ L m news s Q E B F X N T hk hP hd hu hTk hret
  obtain ⟨hP1, hP2⟩ := hP
  have hne : (Txt.item { cps := (c :: r).toArray } 0 != Str.ofString "#") = true := by
    have e : Txt.item { cps := (c :: r).toArray } 0 = ⟨#[c]⟩ := item_at _ 0 c rfl
    rw [e]
    show (!((⟨#[c]⟩ : Str) == Str.ofString "#")) = true
    rw [Bool.not_eq_true', beq_eq_false_iff_ne]
    intro h
    have h2 : (⟨#[c]⟩ : Str) = ⟨#[35]⟩ := h
    cases h2
    exact hc rfl
  refine wpAny_call (codeAny_toks ?_)
  k_dflt (refine' code_def ?k1 ?k2 ?k3 ?k4 ?k5 ?kA ?kF ?kK ?k6 ?k7 ?k8 ?k9 ?kB ?_ ?c2 ?c3 ?c4 ?c5; (case kA => exact rfl); (case kF => exact rfl); (case kK => first | exact rfl | assumption); (case k1 => k_asm); (case k2 => k_asm); (case k3 => k_asm); (case k4 => k_asm); (case k5 => k_asm); (case k6 => k_is); (case k7 => k_is); (case k8 => first | ktr_room); (case k9 => first | exact BindsTo.of_eq rfl | exact binds_K (by k_in) rfl (by k_is) rfl rfl rfl); (case c5 => decide); (case kB => exact locs rfl); (case c2 => exact rfl); (case c3 => exact rfl); (case c4 => exact rfl); k_whole; intro g' L' h' FG' F' N' B' X' T'; (try dsimp only); (try k_lift B'); (try k_fold))
  k_steps
  · rename_i hv _ _ _ _ hl
    rw [named_eq c r hc] at hv
    obtain ⟨t, rfl⟩ := flat_str hv
    (refine Ret.end hret (by assumption) (by k_asm) (by (first | k_asm | (refine cb_drop (by k_asm) (fun p hp => ?_); repeat (first | exact hp | refine List.Mem.tail _ ?_)))) ?_; try exact ⟨_, rfl⟩)
set_option maxHeartbeats 8000000 in
theorem charref_b (w : World) (x : Str) (tk : Tok) (a tp : Addr) (st en b e : Nat) (hx : x.cps.size ≤ 100000) (hcr : (⟨x.cps.extract b e⟩ : Str) = Str.ofString "#65;") :
    SpecN w 2 66 (fun news => (a, matchObj x tk x.cps.size tp) ∈ news ∧ (tp, spansObj st en b e) ∈ news) [.ref a] (fun t => .str (Str.ofString "A") t) := by
  unfold SpecN
  w_top off
  k_fill
  intro p loose mean mg mb dp un gd cn cs ac ccd cl outer A₀ base h₀ L m news s Q E B F X N T hk hP hd hu hTk hret
  obtain ⟨hP1, hP2⟩ := hP
  refine wpAny_call (codeAny_toks ?_)
  k_dflt (refine' code_def ?k1 ?k2 ?k3 ?k4 ?k5 ?kA ?kF ?kK ?k6 ?k7 ?k8 ?k9 ?kB ?_ ?c2 ?c3 ?c4 ?c5; (case kA => exact rfl); (case kF => exact rfl); (case kK => first | exact rfl | assumption); (case k1 => k_asm); (case k2 => k_asm); (case k3 => k_asm); (case k4 => k_asm); (case k5 => k_asm); (case k6 => k_is); (case k7 => k_is); (case k8 => first | ktr_room); (case k9 => first | exact BindsTo.of_eq rfl | exact binds_K (by k_in) rfl (by k_is) rfl rfl rfl); (case c5 => decide); (case kB => exact locs rfl); (case c2 => exact rfl); (case c3 => exact rfl); (case c4 => exact rfl); k_whole; intro g' L' h' FG' F' N' B' X' T'; (try dsimp only); (try k_lift B'); (try k_fold))
  k_steps
  all_goals (refine Ret.end hret (by assumption) (by k_asm) (by (first | k_asm | (refine cb_drop (by k_asm) (fun p hp => ?_); repeat (first | exact hp | refine List.Mem.tail _ ?_)))) ?_; try exact ⟨_, rfl⟩)
set_option maxHeartbeats 8000000 in
theorem charref_c (w : World) (x : Str) (tk : Tok) (a tp : Addr) (st en b e : Nat) (hx : x.cps.size ≤ 100000) (hcr : (⟨x.cps.extract b e⟩ : Str) = Str.ofString "#x3c;") :
    SpecN w 2 66 (fun news => (a, matchObj x tk x.cps.size tp) ∈ news ∧ (tp, spansObj st en b e) ∈ news) [.ref a] (fun t => .str (Str.ofString "<") t) := by
  unfold SpecN
  w_top off
  k_fill
  intro p loose mean mg mb dp un gd cn cs ac ccd cl outer A₀ base h₀ L m news s Q E B F X N T hk hP hd hu hTk hret
  obtain ⟨hP1, hP2⟩ := hP
  refine wpAny_call (codeAny_toks ?_)
  k_dflt (refine' code_def ?k1 ?k2 ?k3 ?k4 ?k5 ?kA ?kF ?kK ?k6 ?k7 ?k8 ?k9 ?kB ?_ ?c2 ?c3 ?c4 ?c5; (case kA => exact rfl); (case kF => exact rfl); (case kK => first | exact rfl | assumption); (case k1 => k_asm); (case k2 => k_asm); (case k3 => k_asm); (case k4 => k_asm); (case k5 => k_asm); (case k6 => k_is); (case k7 => k_is); (case k8 => first | ktr_room); (case k9 => first | exact BindsTo.of_eq rfl | exact binds_K (by k_in) rfl (by k_is) rfl rfl rfl); (case c5 => decide); (case kB => exact locs rfl); (case c2 => exact rfl); (case c3 => exact rfl); (case c4 => exact rfl); k_whole; intro g' L' h' FG' F' N' B' X' T'; (try dsimp only); (try k_lift B'); (try k_fold))
  k_steps
  all_goals (refine Ret.end hret (by assumption) (by k_asm) (by (first | k_asm | (refine cb_drop (by k_asm) (fun p hp => ?_); repeat (first | exact hp | refine List.Mem.tail _ ?_)))) ?_; try exact ⟨_, rfl⟩)
end Mine
end

section
open PySem PySem.W PyProof.Rows PySem.Calls PySem.Spec
set_option Elab.async false
set_option maxRecDepth 100000
namespace Mine
open PySem.Builtin PySem.Builtin.Re

theorem charref_spec (w : World) (x : Str) (tk : Tok) (hx : x.cps.size ≤ 100000) (a tp : Addr) (st en b e : Nat) (hbe : b ≤ e) (he : e ≤ x.cps.size) (hn : NameOk ((x.cps.toList.drop b).take (e - b))) :
    SpecN w 2 66 (fun news => (a, matchObj x tk x.cps.size tp) ∈ news ∧ (tp, spansObj st en b e) ∈ news) [.ref a] (fun t => .str ⟨(replL ((x.cps.toList.drop b).take (e - b))).toArray⟩ t) := by
  have hex : (⟨x.cps.extract b e⟩ : Str) = ⟨((x.cps.toList.drop b).take (e - b)).toArray⟩ := by
    apply Str.ext'
    apply Array.ext'
    rw [List.toList_toArray, ← extract_take, Nat.add_sub_cancel' hbe]
  have hl : ((x.cps.toList.drop b).take (e - b)).length ≤ 100000 := by
    rw [List.length_take, List.length_drop, Array.length_toList]; omega
  obtain ⟨c, r, hcr, h35⟩ := hn
  rw [hcr] at hex hl h35
  rw [List.length_cons] at hl
  rw [hcr]
  by_cases hc : c = 35
  · rcases h35 hc with h | h
    · rw [h] at hex ⊢
      exact charref_b w x tk a tp st en b e hx hex
    · rw [h] at hex ⊢
      exact charref_c w x tk a tp st en b e hx hex
  · exact charref_a w x tk a tp st en b e hx c r hex (by omega) hc

section
variable {w : World} {x : Str} {tk : Tok} {p : Program} {loose : List Str} {mean : ExcName → Option Value} {mg mb : Str → Option Value}
    {dp un : Nat} {gd : Option (List Code)} {cn : Str} {cs : Scope} {a : Addr} {ccd : Value} {cl : List (Str × Addr)} {outer : List Env} {A₀ : Around} {base h₀ : Heap} {L : Addr} {m : Str → Option Value} {news : List (Addr × Obj)} {s : Shared}
    {Q E : Value → Shared → Prop}
theorem gm_sub {prog : Program} {A : Around} {pl : Sem Bool} {Q : Value × List Value → Shared → Prop} {pa pf pb pc : Value} {E : Value → Shared → Prop} (hp : s.heap.get? 156 = some (patObj pa pf pb pc)) (h : Q (.builtin "re.Pattern.sub", [.ref 156]) s) :
    wpAny (model prog w) A (getMethod (.ref 156) "sub" pl) Q E s :=
  getMethod_builtin (T := "re.Pattern") ⟨_, hp, rfl⟩ plainAttrs_pattern slot_pattern_sub type_pattern_sub (fun b e => by cases e; exact ⟨_, hp, rfl⟩) h
theorem call_sub {pa pf pb pc : Value} {fo : Obj} (hx : x.length ≤ 100000) (hf : Fine x.cps.toList)
    (B : Below A₀ base outer h₀) (F : Fr h₀ L s.heap m) (X : (hd.heap_39 w.params).In h₀) (N : News h₀ L s.heap news) (T : Top p loose mean mg mb h₀) (hk : cs.kind = .function) (hd : dp + 2 < recursionLimit) (hu : un + 21 < cLine)
    (hp : h₀.get? 156 = some (patObj pa pf pb pc)) (hc : h₀.get? 155 = some codeObj) (hfo : h₀.get? 66 = some fo) (hfc : fo.cls = .type "function") (htk : 1 ≤ s.toks)
    (hret : ∀ t h' tk', s.toks ≤ tk' → Fr h₀ L h' m → News h₀ L h' news → Q (.str ⟨(unescL x.cps.toList).toArray⟩ t) { s with heap := h', toks := tk' }) :
    wpAny (model Prg w) (ktrTop dp un gd cn cs L a ccd cl outer) (call (.builtin "re.Pattern.sub") [.ref 156, .ref 66, .str x tk]) Q E s := by
  refine wpAny_call (codeAny_call_builtin slot_pattern_sub.plain entry_pattern_sub (slot_pattern_sub.check _ _ _ _ _ _ _ _ ⟨_, F.keep _ _ hp, rfl⟩ (args_pattern_sub_3 _ _ _) ?_))
  refine wpAny_sub_entry (R := wants Q E) (F.keep _ _ hp) (F.keep _ _ hc) (F.keep _ _ hfo) hfc ?_
  refine sub_loop (ys := []) hx (charref_spec w x tk hx) B X T hk hd hu hp hc (fun q hq => Nat.ne_of_lt (Heap.lt_size (N q hq).1)) (x.cps.toList.length + 1) x.cps.toList 0 0 #[] 0 _ (Nat.lt_succ_self _) rfl (Nat.zero_le _) hf .nil (Nat.zero_le _) (Nat.zero_le _) (F.push _) (N.push F _) htk ?_
  intro t h' tk' htk' F' N'
  exact hret t h' tk' htk' F' N'
end

local macro_rules | `(tactic| walk_at "execs cons") => `(tactic| (k_here; (first | (with_reducible show wpAny _ _ _ _ _ (Shared.mk _ _ _ (HAdd.hAdd _ _) _)) | (with_reducible show wpAny _ _ _ _ _ (Shared.mk _ _ _ (Shared.toks _) _))); (with_reducible refine tokGen (by omega) ?_); intro tk hTk))
local macro_rules | `(tactic| walk_at "execs nil") => `(tactic| (k_here; (first | (with_reducible show wpAny _ _ _ _ _ (Shared.mk _ _ _ (HAdd.hAdd _ _) _)) | (with_reducible show wpAny _ _ _ _ _ (Shared.mk _ _ _ (Shared.toks _) _))); (with_reducible refine tokGen (by omega) ?_); intro tk hTk))
local macro_rules | `(tactic| walk_at "getMethod ref") => `(tactic| (k_here; (with_reducible show wpAny _ _ (getMethod (Value.ref _) (Str.ofString "sub") _) _ _ _); k_dflt (refine' gm_sub ?k1 ?_; (case k1 => exact (Frag.In.keeps (by k_asm) (Fr.keep (by k_asm))) _ _ (by k_is)))))
local macro_rules | `(tactic| walk_at "call builtin:re.Pattern.sub") => `(tactic| (k_here; k_dflt (refine' call_sub ?k1 ?k2 ?k3 ?k4 ?k5 ?k6 ?k7 ?k8 ?k9 ?k10 ?k11 ?k12 ?k13 ?k14 ?k15 ?_; (case k1 => omega); (case k2 => assumption); (case k3 => k_asm); (case k4 => k_asm); (case k5 => k_asm); (case k6 => k_asm); (case k7 => k_asm); (case k8 => first | exact rfl | assumption); (case k9 => ktr_room); (case k10 => ktr_units); (case k11 => exact (by with_reducible assumption : Frag.In _ _) _ _ (by k_is)); (case k12 => exact (by with_reducible assumption : Frag.In _ _) _ _ (by k_is)); (case k13 => exact (by with_reducible assumption : Frag.In _ _) _ _ (by k_is)); (case k14 => exact rfl); (case k15 => (dsimp only; omega)); intro t' h' tk' hl' F' N')))
theorem findM_none : ∀ l : List Nat, 38 ∉ l → findM l = none
  | [], _ => rfl
  | c :: r, h => by
    rw [findM_cons, if_neg (fun e => h (by rw [e]; exact .head _)), findM_none r (fun m => h (.tail _ m))]
    rfl
set_option maxHeartbeats 8000000 in
theorem unescape_spec (w : World) (x : Str) (tk : Tok) : Spec1 w 5 163 (x.length ≤ 100000 ∧ Fine x.cps.toList) [.str x tk] (fun t => .str ⟨(unescL x.cps.toList).toArray⟩ t) := by
  unfold Spec1 SpecN
  w_top off
  k_fill
  intro p loose mean mg mb dp un gd cn cs ac ccd cl outer A₀ base h₀ L m news s Q E B F X N T hk hP hd hu hTk hret
  obtain ⟨hP1, hP2⟩ := hP
  refine wpAny_call (codeAny_toks ?_)
  k_dflt (refine' code_def ?k1 ?k2 ?k3 ?k4 ?k5 ?kA ?kF ?kK ?k6 ?k7 ?k8 ?k9 ?kB ?_ ?c2 ?c3 ?c4 ?c5; (case kA => exact rfl); (case kF => exact rfl); (case kK => first | exact rfl | assumption); (case k1 => k_asm); (case k2 => k_asm); (case k3 => k_asm); (case k4 => k_asm); (case k5 => k_asm); (case k6 => k_is); (case k7 => k_is); (case k8 => first | ktr_room); (case k9 => first | exact BindsTo.of_eq rfl | exact binds_K (by k_in) rfl (by k_is) rfl rfl rfl); (case c5 => decide); (case kB => exact locs rfl); (case c2 => exact rfl); (case c3 => exact rfl); (case c4 => exact rfl); k_whole; intro g' L' h' FG' F' N' B' X' T'; (try dsimp only); (try k_lift B'); (try k_fold))
  k_steps
  · have h38 : 38 ∉ x.cps.toList := by
      have hf := StrLaws.found_one x 38
      have hz : (Str.occurrences x ⟨#[38]⟩ 0 x.length 1).isEmpty = true := by assumption
      rw [hz] at hf
      exact of_decide_eq_false hf.symm
    rw [unescL_none (findM_none _ h38)] at hret
    (refine Ret.end hret (by assumption) (by k_asm) (by (first | k_asm | (refine cb_drop (by k_asm) (fun p hp => ?_); repeat (first | exact hp | refine List.Mem.tail _ ?_)))) ?_; try exact ⟨_, rfl⟩)
  · (refine Ret.end hret (by assumption) (by k_asm) (by (first | k_asm | (refine cb_drop (by k_asm) (fun p hp => ?_); repeat (first | exact hp | refine List.Mem.tail _ ?_)))) ?_; try exact ⟨_, rfl⟩)
end Mine
end

section
open PySem PySem.W PyProof.Rows PySem.Calls PySem.Spec
set_option Elab.async false
set_option maxRecDepth 100000
namespace Mine
open PySem.Builtin PySem.Builtin.Re
theorem comp_end_text {h₀ : Heap} {L I C D : Addr} {m : Str → Option Value} {s₁ : Shared} {oI oC oD : Obj} {z g : Str} {t : Tok} {h' : Heap} {tk : Nat} {news : List (Addr × Obj)}
    (N : News h₀ L h' ((I, oI) :: (C, oC) :: (D, oD) :: news)) (off : LCg.Off3 I C D news) (F : Fr h₀ L h' m) (e : z = g) :
    LCg.CompEnd h₀ L m s₁ I oI C oC D oD (fun _ => True) (fun y news' => news' = news ∧ ∃ t, y = .str g t) (.str z t) { s₁ with heap := h', toks := tk } := by
  subst e
  exact LCg.CompEnd.intro F N _ (fun p hp => hp) off trivial ⟨rfl, _, rfl⟩
local macro_rules | `(tactic| walk_at "execs cons") => `(tactic| (k_here; (first | (with_reducible show wpAny _ _ _ _ _ (Shared.mk _ _ _ (HAdd.hAdd _ _) _)) | (with_reducible show wpAny _ _ _ _ _ (Shared.mk _ _ _ (Shared.toks _) _))); (with_reducible refine tokGen (by omega) ?_); intro tk hTk))
local macro_rules | `(tactic| walk_at "execs nil") => `(tactic| (k_here; (first | (with_reducible show wpAny _ _ _ _ _ (Shared.mk _ _ _ (HAdd.hAdd _ _) _)) | (with_reducible show wpAny _ _ _ _ _ (Shared.mk _ _ _ (Shared.toks _) _))); (with_reducible refine tokGen (by omega) ?_); intro tk hTk))
local macro_rules | `(tactic| k_all) => `(tactic| (first | exact lt_ne0 (by assumption) | exact lt_ne1 (by assumption) | exact allLt_ne0 (by assumption) | exact allLt_ne1 (by assumption)))
def pctL (c : Nat) : List Nat := [37, hx (c / 16), hx (c % 16)]
def pctF (c : Nat) : Str := ⟨(pctL c).toArray⟩
def keptS : Str := Str.ofString "ABCDEFGHIJKLMNOPQRSTUVWXYZabcdefghijklmnopqrstuvwxyz0123456789_.-~:/?#@!$&()*+,;=%"
def rowL (c : Nat) : List Nat := if keptS.cps.toList.contains c then [c] else ((Str.utf8Of c).map (·.toNat)).flatMap pctL
def rowF (c : Nat) : Str := ⟨(rowL c).toArray⟩
def quoteL (x : List Nat) : List Nat := x.flatMap rowL
theorem rowL_len (c : Nat) : (rowL c).length ≤ 12 := by
  unfold rowL
  split
  · exact (by decide : 1 ≤ 12)
  · have h := utf8_len c
    have : ∀ l : List Nat, (l.flatMap pctL).length = 3 * l.length := by
      intro l
      induction l with
      | nil => rfl
      | cons a l ih => rw [List.flatMap_cons, List.length_append, ih, List.length_cons]; show 3 + _ = _; omega
    rw [this, List.length_map]; omega
theorem join_map (f : Nat → List Nat) (x : List Nat) : Txt.join (Str.ofString "") (x.map fun c => (⟨(f c).toArray⟩ : Str)) = ⟨(x.flatMap f).toArray⟩ := by
  rw [show (Str.ofString "" : Str) = ⟨#[]⟩ from rfl, join_flat]
  congr 2
  unfold flat
  rw [List.flatMap_def, List.map_map]
  rfl
theorem row_in {c : Nat} (h : (Str.occurrences keptS ⟨#[c]⟩ 0 keptS.length 1).isEmpty = false) : (⟨#[c]⟩ : Str) = rowF c := by
  have hf := StrLaws.found_one keptS c
  rw [h] at hf
  have hc : c ∈ keptS.cps.toList := of_decide_eq_true hf.symm
  unfold rowF rowL
  rw [if_pos (List.contains_iff_mem.mpr hc)]
theorem row_out {c : Nat} (h : (Str.occurrences keptS ⟨#[c]⟩ 0 keptS.length 1).isEmpty = true) : (⟨(((Str.utf8Of c).map (·.toNat)).flatMap pctL).toArray⟩ : Str) = rowF c := by
  have hf := StrLaws.found_one keptS c
  rw [h] at hf
  have hc : ¬ c ∈ keptS.cps.toList := of_decide_eq_false hf.symm
  unfold rowF rowL
  rw [if_neg (fun h => hc (List.contains_iff_mem.mp h))]
theorem sum_map (f : Nat → List Nat) (k : Nat) (hf : ∀ c, (f c).length ≤ k) (x : List Nat) : ((x.map fun c => (⟨(f c).toArray⟩ : Str)).map (·.length)).sum ≤ k * x.length := by
  induction x with
  | nil => simp
  | cons a x ih =>
    simp only [List.map_cons, List.sum_cons, List.length_cons]
    have := hf a
    have e : (⟨(f a).toArray⟩ : Str).length = (f a).length := by simp [Str.length]
    rw [e, Nat.mul_succ]; omega
local macro_rules | `(tactic| walk_at "exec Assign cons ListComp") => `(tactic| (k_here; k_dflt (refine Assign_ListComp_W (by k_asm) (by rfl) (by with_unfolding_all rfl) (by with_unfolding_all rfl) (by decide) (by rfl) (by decide) (by rfl) (by rfl) (by rfl) ?_)))
local macro_rules | `(tactic| walk_at "eval ListComp") => `(tactic| (k_here; k_dflt (refine ListComp_W (by k_asm) (by with_unfolding_all rfl) (by decide) (by rfl) (by decide) (by rfl) ?_)))
local macro_rules | `(tactic| walk_at "getMethod str") => `(tactic| (k_here; (with_reducible show wpAny _ _ (getMethod (Value.str _ _) (Str.ofString "encode") _) _ _ _); refine gm_encode ?_))
local macro_rules | `(tactic| walk_at "call builtin:str.encode") => `(tactic| (k_here; refine call_encode (by assumption) ?_))
local macro_rules | `(tactic| walk_at "formatField int") => `(tactic| (k_here; refine field_02 (by rfl) (by k_asm) ?_))
def SpecKw (w : World) (k : Nat) (f : Addr) (P : Prop) (vs : List Value) (kw : List (Str × Value)) (R : Tok → Value) : Prop :=
  ∀ (p : Program) (loose : List Str) (mean : ExcName → Option Value) (mg mb : Str → Option Value)
    (dp un : Nat) (gd : Option (List Code)) (cn : Str) (cs : Scope) (a : Addr) (ccd : Value) (cl : List (Str × Addr)) (outer : List Env) (A₀ : Around) (base h₀ : Heap) (L : Addr) (m : Str → Option Value) (news : List (Addr × Obj)) (s : Shared)
    (Q E : Value → Shared → Prop),
    Below A₀ base outer h₀ → Fr h₀ L s.heap m → (hd.heap_39 w.params).In h₀ → News h₀ L s.heap news → Top p loose mean mg mb h₀ → cs.kind = .function → P → dp + k < recursionLimit → un + 10 * k < cLine → 1 ≤ s.toks →
    Ret h₀ L m news s Q R →
    wpAny (model Challenge.rw_ci0013_01.row.prog w) (ktrTop dp un gd cn cs L a ccd cl outer) (call (.ref f) vs kw) Q E s
set_option maxHeartbeats 8000000 in
theorem quote_spec (w : World) (x : Str) (tk tk2 : Tok) : SpecKw w 2 52 (x.length ≤ 10000 ∧ ∀ c ∈ x.cps.toList, Str.isSurrogate c = false) [.str x tk] [(Str.ofString "safe", .str (Str.ofString ":/?#@!$&()*+,;=%") tk2)] (fun t => .str ⟨(quoteL x.cps.toList).toArray⟩ t) := by
  unfold SpecKw
  w_top off
  k_fill
  intro p loose mean mg mb dp un gd cn cs ac ccd cl outer A₀ base h₀ L m news s Q E B F X N T hk hP hd hu hTk hret
  obtain ⟨hP, hS⟩ := hP
  refine wpAny_call (codeAny_toks ?_)
  k_dflt (refine' code_defC ?k1 ?k2 ?k3 ?k4 ?k5 ?kA ?kF ?kK ?k6 ?k7 ?k8 ?k9 ?kB ?kD ?_ ?c2 ?c3 ?c4; (case kA => exact rfl); (case kF => exact rfl); (case kK => first | exact rfl | assumption); (case k1 => k_asm); (case k2 => k_asm); (case k3 => k_asm); (case k4 => k_asm); (case k5 => k_asm); (case k6 => k_is); (case k7 => k_is); (case k8 => ktr_room); (case k9 => first | exact BindsTo.of_eq rfl | exact binds_K (by k_in) rfl (by k_is) rfl rfl rfl | fail "k_enter: no rule for these arguments"); (case kB => exact rfl); (case kD => decide +kernel); (case c2 => exact rfl); (case c3 => exact rfl); (case c4 => exact rfl); k_whole; intro g' L' h' tk' cells' FG' F' N' Y' B' X' T' l1; (try k_lt l1); k_cells Y'; (try simp only [List.cons_append, List.nil_append] at N'); (try dsimp only); (try k_lift B'); (try k_fold))
  k_steps
  refine csrc_of (n := x.cps.size) (P := SignAt x) (iterOf_str (by exact rfl) x tk) (by rw [sizeLine_eq]; have : x.cps.size ≤ 10000 := hP; omega) (by k_asm) (by k_asm) fun g9 => ?_
  refine rest_text (ks := x.cps.toList) (fun c t => .str ⟨#[c]⟩ t) rowF (by simp) (fun i v hi hv => ?_) (fun k' t' I' oI' C' oC' D' m' ys' h' tk' E' hk' hC' hx' F' N' off' ne' => ?_) (fun ys' hy' => ?_)
  · obtain ⟨c, u, h1, h2⟩ := hv
    exact ⟨c, u, by simpa using h1, h2⟩
  · obtain ⟨ne1, ne2, ne3⟩ := ne'
    have hsur := hS k' hk'
    k_steps
    · refine csrc_of (n := (Str.utf8Of k').toArray.size) (iterOf_bytes (by exact rfl) (Str.utf8Of k').toArray _) (by rw [sizeLine_eq, List.size_toArray]; have := utf8_len k'; omega) (by k_asm) (by k_asm) fun g9 => ?_
      refine rest_text (ks := (Str.utf8Of k').map (·.toNat)) (fun c t => .int (c : Int) t) pctF (by simp) (fun i v hi hv => ?_) (fun k2 t' I' oI' C' oC' D' m' ys' h' tk' E' hk2 hC2 hx2 F' N' off2 ne' => ?_) (fun ys' hy' => ?_)
      · obtain ⟨c, u, h1, h2⟩ := hv
        refine ⟨c.toNat, u, ?_, h2⟩
        rw [List.getElem?_map]
        have : (Str.utf8Of k')[i]? = some c := by simpa using h1
        rw [this]; rfl
      · obtain ⟨ne1, ne2, ne3⟩ := ne'
        have h256 : k2 < 256 := by
          obtain ⟨c, _, e⟩ := List.mem_map.1 hk2
          have := c.toNat_lt
          omega
        k_steps
        refine comp_end_text N' off2 (by k_asm) ?_
        rfl
      · intro D9 h9 tk9 F9 N9 o9
        k_steps
        refine join_list (items := ys'.toArray) ⟨_, (N9 _ (.head _)).1, rfl, _, rfl⟩ hy' ?_ ?_
        · have h := sum_map pctL 3 (fun c => Nat.le_refl 3) ((Str.utf8Of k').map (·.toNat))
          have h2 := utf8_len k'
          rw [List.length_map] at h
          rw [show (Str.ofString "" : Str).length = 0 from rfl]
          unfold pctF
          omega
        · intro t9 k9
          refine comp_end_text (fun p hp => N9 p (.tail _ hp)) off' (by k_asm) ?_
          exact (join_map pctL _).trans (row_out (by assumption))
    · refine comp_end_text N' off' (by k_asm) ?_
      exact row_in (by assumption)
  · intro D9 h9 tk9 F9 N9 o9
    k_steps
    refine join_list (items := ys'.toArray) ⟨_, (N9 _ (.head _)).1, rfl, _, rfl⟩ hy' ?_ ?_
    · have h := sum_map rowL 12 rowL_len x.cps.toList
      have hP' : x.cps.toList.length ≤ 10000 := by rw [Array.length_toList]; exact hP
      rw [show (Str.ofString "" : Str).length = 0 from rfl]
      unfold rowF
      omega
    · intro t9 k9
      have e := join_map rowL x.cps.toList
      unfold rowF
      rw [e]
      k_steps
      (refine Ret.end hret (by assumption) (by k_asm) (by (first | k_asm | (refine cb_drop (by k_asm) (fun p hp => ?_); repeat (first | exact hp | refine List.Mem.tail _ ?_)))) ?_; try exact ⟨_, rfl⟩)
end Mine
end

section
open PySem PySem.W PyProof.Rows PySem.Calls PySem.Spec
set_option Elab.async false
set_option maxRecDepth 100000
namespace Mine
theorem call_of {w : World} {k : Nat} {f : Addr} {P : List (Addr × Obj) → Prop} {vs : List Value} {R : Tok → Value} (H : SpecN w k f P vs R)
    {p : Program} {loose : List Str} {mean : ExcName → Option Value} {mg mb : Str → Option Value}
    {dp un : Nat} {gd : Option (List Code)} {cn : Str} {cs : Scope} {a : Addr} {ccd : Value} {cl : List (Str × Addr)} {outer : List Env} {A₀ : Around} {base h₀ : Heap} {L : Addr} {m : Str → Option Value} {news : List (Addr × Obj)} {s : Shared}
    {Q E : Value → Shared → Prop} (B : Below A₀ base outer h₀) (F : Fr h₀ L s.heap m) (X : (hd.heap_39 w.params).In h₀) (N : News h₀ L s.heap news) (T : Top p loose mean mg mb h₀) (hk : cs.kind = .function) (hP : P news) (hd : dp + k < recursionLimit) (hu : un + 10 * k < cLine) (htk : 1 ≤ s.toks)
    (hret : ∀ t h' tk', s.toks ≤ tk' → Fr h₀ L h' m → News h₀ L h' news → Q (R t) { s with heap := h', toks := tk' }) :
    wpAny (model Challenge.rw_ci0013_01.row.prog w) (ktrTop dp un gd cn cs L a ccd cl outer) (call (.ref f) vs) Q E s :=
  H p loose mean mg mb dp un gd cn cs a ccd cl outer A₀ base h₀ L m news s Q E B F X N T hk hP hd hu htk hret
theorem call_ofK {w : World} {k : Nat} {f : Addr} {P : Prop} {vs : List Value} {kw : List (Str × Value)} {R : Tok → Value} (H : SpecKw w k f P vs kw R)
    {p : Program} {loose : List Str} {mean : ExcName → Option Value} {mg mb : Str → Option Value}
    {dp un : Nat} {gd : Option (List Code)} {cn : Str} {cs : Scope} {a : Addr} {ccd : Value} {cl : List (Str × Addr)} {outer : List Env} {A₀ : Around} {base h₀ : Heap} {L : Addr} {m : Str → Option Value} {news : List (Addr × Obj)} {s : Shared}
    {Q E : Value → Shared → Prop} (B : Below A₀ base outer h₀) (F : Fr h₀ L s.heap m) (X : (hd.heap_39 w.params).In h₀) (N : News h₀ L s.heap news) (T : Top p loose mean mg mb h₀) (hk : cs.kind = .function) (hP : P) (hd : dp + k < recursionLimit) (hu : un + 10 * k < cLine) (htk : 1 ≤ s.toks)
    (hret : ∀ t h' tk', s.toks ≤ tk' → Fr h₀ L h' m → News h₀ L h' news → Q (R t) { s with heap := h', toks := tk' }) :
    wpAny (model Challenge.rw_ci0013_01.row.prog w) (ktrTop dp un gd cn cs L a ccd cl outer) (call (.ref f) vs kw) Q E s :=
  H p loose mean mg mb dp un gd cn cs a ccd cl outer A₀ base h₀ L m news s Q E B F X N T hk hP hd hu htk hret
local macro_rules | `(tactic| walk_at "execs cons") => `(tactic| (k_here; (first | (with_reducible show wpAny _ _ _ _ _ (Shared.mk _ _ _ (HAdd.hAdd _ _) _)) | (with_reducible show wpAny _ _ _ _ _ (Shared.mk _ _ _ (Shared.toks _) _))); (with_reducible refine tokGen (by omega) ?_); intro tk hTk))
local macro_rules | `(tactic| walk_at "execs nil") => `(tactic| (k_here; (first | (with_reducible show wpAny _ _ _ _ _ (Shared.mk _ _ _ (HAdd.hAdd _ _) _)) | (with_reducible show wpAny _ _ _ _ _ (Shared.mk _ _ _ (Shared.toks _) _))); (with_reducible refine tokGen (by omega) ?_); intro tk hTk))
theorem len_le {x : Str} {n : Nat} (h : x.cps.toList.length ≤ n) : x.length ≤ n := by rw [Array.length_toList] at h; exact h
theorem len_mk (l : List Nat) : (⟨l.toArray⟩ : Str).length = l.length := by simp [Str.length]
theorem unescL_len : ∀ l : List Nat, (unescL l).length ≤ l.length := by
  intro l
  generalize hn : l.length = n
  induction n using Nat.strongRecOn generalizing l with
  | _ n ih =>
  subst hn
  cases h : findM l with
  | none => rw [unescL_none h]; exact Nat.le_refl _
  | some jk =>
    obtain ⟨j, k⟩ := jk
    have hle := findM_le h
    rw [unescL_some h, List.length_append, List.length_append]
    have h1 := ih (l.drop (j + 1 + k)).length (by rw [List.length_drop]; omega) _ rfl
    have h2 := replL_len ((l.drop (j + 1)).take k)
    rw [List.length_take, List.length_drop] at h2
    rw [List.length_take]
    rw [List.length_drop] at h1
    omega
theorem unesc_le {x : Str} {n k : Nat} (h : x.length ≤ n) (hk : n ≤ k) : (⟨(unescL x.cps.toList).toArray⟩ : Str).length ≤ k := by
  rw [len_mk]
  have h1 := unescL_len x.cps.toList
  rw [Array.length_toList] at h1
  exact Nat.le_trans h1 (Nat.le_trans h hk)
local macro_rules | `(tactic| walk_at "call ref") => `(tactic| (k_here; (with_reducible show wpAny _ _ (call (Value.ref 163) _) _ _ _); k_dflt (refine' call_of (unescape_spec _ _ _) ?k1 ?k2 ?k3 ?k4 ?k5 ?k6 ?k7 ?k8 ?k9 ?k10 ?_; (case k1 => k_asm); (case k2 => k_asm); (case k3 => k_asm); (case k4 => k_asm); (case k5 => k_asm); (case k6 => first | exact rfl | assumption); (case k7 => refine ⟨?_, ?_⟩ <;> first | assumption | exact Nat.le_trans (by assumption) (by decide)); (case k8 => ktr_room); (case k9 => ktr_units); (case k10 => (dsimp only; omega)); intro t' h' tk' hl' F' N'; (try dsimp only at hl'))))
local macro_rules | `(tactic| walk_at "call ref") => `(tactic| (k_here; (with_reducible show wpAny _ _ (call (Value.ref 137) _) _ _ _); k_dflt (refine' call_of (escape_spec _ _ _) ?k1 ?k2 ?k3 ?k4 ?k5 ?k6 ?k7 ?k8 ?k9 ?k10 ?_; (case k1 => k_asm); (case k2 => k_asm); (case k3 => k_asm); (case k4 => k_asm); (case k5 => k_asm); (case k6 => first | exact rfl | assumption); (case k7 => first | assumption | exact unesc_le (by assumption) (by decide)); (case k8 => ktr_room); (case k9 => ktr_units); (case k10 => (dsimp only; omega)); intro t' h' tk' hl' F' N'; (try dsimp only at hl'))))
set_option maxHeartbeats 8000000 in
theorem safe_spec (w : World) (x : Str) (tk : Tok) : Spec1 w 7 151 (x.length ≤ 1000 ∧ Fine x.cps.toList) [.str x tk] (fun t => .str ⟨(escL (unescL x.cps.toList)).toArray⟩ t) := by
  unfold Spec1 SpecN
  w_top off
  k_fill
  intro p loose mean mg mb dp un gd cn cs ac ccd cl outer A₀ base h₀ L m news s Q E B F X N T hk hP hd hu hTk hret
  obtain ⟨hP1, hP2⟩ := hP
  refine wpAny_call (codeAny_toks ?_)
  k_dflt (refine' code_def ?k1 ?k2 ?k3 ?k4 ?k5 ?kA ?kF ?kK ?k6 ?k7 ?k8 ?k9 ?kB ?_ ?c2 ?c3 ?c4 ?c5; (case kA => exact rfl); (case kF => exact rfl); (case kK => first | exact rfl | assumption); (case k1 => k_asm); (case k2 => k_asm); (case k3 => k_asm); (case k4 => k_asm); (case k5 => k_asm); (case k6 => k_is); (case k7 => k_is); (case k8 => first | ktr_room); (case k9 => first | exact BindsTo.of_eq rfl | exact binds_K (by k_in) rfl (by k_is) rfl rfl rfl); (case c5 => decide); (case kB => exact locs rfl); (case c2 => exact rfl); (case c3 => exact rfl); (case c4 => exact rfl); k_whole; intro g' L' h' FG' F' N' B' X' T'; (try dsimp only); (try k_lift B'); (try k_fold))
  k_steps
  all_goals (refine Ret.end hret (by assumption) (by k_asm) (by (first | k_asm | (refine cb_drop (by k_asm) (fun p hp => ?_); repeat (first | exact hp | refine List.Mem.tail _ ?_)))) ?_; try exact ⟨_, rfl⟩)
local macro_rules | `(tactic| walk_at "call ref") => `(tactic| (k_here; (with_reducible show wpAny _ _ (call (Value.ref 52) _ _) _ _ _); k_dflt (refine' call_ofK (quote_spec _ _ _ _) ?k1 ?k2 ?k3 ?k4 ?k5 ?k6 ?k7 ?k8 ?k9 ?k10 ?_; (case k1 => k_asm); (case k2 => k_asm); (case k3 => k_asm); (case k4 => k_asm); (case k5 => k_asm); (case k6 => first | exact rfl | assumption); (case k7 => exact ⟨unesc_le (by assumption) (by decide), by assumption⟩); (case k8 => ktr_room); (case k9 => ktr_units); (case k10 => (dsimp only; omega)); intro t' h' tk' hl' F' N'; (try dsimp only at hl'))))
def urlL (l : List Nat) : List Nat := quoteL (unescL l)
set_option maxHeartbeats 8000000 in
theorem url_spec (w : World) (x : Str) (tk : Tok) : Spec1 w 7 144 (x.length ≤ 10000 ∧ Fine x.cps.toList ∧ ∀ c ∈ (⟨(unescL x.cps.toList).toArray⟩ : Str).cps.toList, Str.isSurrogate c = false) [.str x tk] (fun t => .str ⟨(urlL x.cps.toList).toArray⟩ t) := by
  unfold Spec1 SpecN
  w_top off
  k_fill
  intro p loose mean mg mb dp un gd cn cs ac ccd cl outer A₀ base h₀ L m news s Q E B F X N T hk hP hd hu hTk hret
  obtain ⟨hP1, hP2, hP3⟩ := hP
  refine wpAny_call (codeAny_toks ?_)
  k_dflt (refine' code_def ?k1 ?k2 ?k3 ?k4 ?k5 ?kA ?kF ?kK ?k6 ?k7 ?k8 ?k9 ?kB ?_ ?c2 ?c3 ?c4 ?c5; (case kA => exact rfl); (case kF => exact rfl); (case kK => first | exact rfl | assumption); (case k1 => k_asm); (case k2 => k_asm); (case k3 => k_asm); (case k4 => k_asm); (case k5 => k_asm); (case k6 => k_is); (case k7 => k_is); (case k8 => first | ktr_room); (case k9 => first | exact BindsTo.of_eq rfl | exact binds_K (by k_in) rfl (by k_is) rfl rfl rfl); (case c5 => decide); (case kB => exact locs rfl); (case c2 => exact rfl); (case c3 => exact rfl); (case c4 => exact rfl); k_whole; intro g' L' h' FG' F' N' B' X' T'; (try dsimp only); (try k_lift B'); (try k_fold))
  k_steps
  all_goals (refine Ret.end hret (by assumption) (by k_asm) (by (first | k_asm | (refine cb_drop (by k_asm) (fun p hp => ?_); repeat (first | exact hp | refine List.Mem.tail _ ?_)))) ?_; try exact ⟨_, rfl⟩)
end Mine
end

section
open PySem PySem.W PyProof.Rows PySem.Calls PySem.Spec
set_option Elab.async false
set_option maxRecDepth 100000
namespace Mine
/-- a spec that asks nothing of the tokens -/
def SpecZ (w : World) (k : Nat) (f : Addr) (P : Prop) (vs : List Value) (R : Tok → Value) : Prop :=
  ∀ (p : Program) (loose : List Str) (mean : ExcName → Option Value) (mg mb : Str → Option Value)
    (dp un : Nat) (gd : Option (List Code)) (cn : Str) (cs : Scope) (a : Addr) (ccd : Value) (cl : List (Str × Addr)) (outer : List Env) (A₀ : Around) (base h₀ : Heap) (L : Addr) (m : Str → Option Value) (news : List (Addr × Obj)) (s : Shared)
    (Q E : Value → Shared → Prop),
    Below A₀ base outer h₀ → Fr h₀ L s.heap m → (hd.heap_39 w.params).In h₀ → News h₀ L s.heap news → Top p loose mean mg mb h₀ → cs.kind = .function → P → dp + k < recursionLimit → un + 10 * k < cLine →
    Ret h₀ L m news s Q R →
    wpAny (model Challenge.rw_ci0013_01.row.prog w) (ktrTop dp un gd cn cs L a ccd cl outer) (call (.ref f) vs) Q E s
theorem call_ofZ {w : World} {k : Nat} {f : Addr} {P : Prop} {vs : List Value} {R : Tok → Value} (H : SpecZ w k f P vs R)
    {p : Program} {loose : List Str} {mean : ExcName → Option Value} {mg mb : Str → Option Value}
    {dp un : Nat} {gd : Option (List Code)} {cn : Str} {cs : Scope} {a : Addr} {ccd : Value} {cl : List (Str × Addr)} {outer : List Env} {A₀ : Around} {base h₀ : Heap} {L : Addr} {m : Str → Option Value} {news : List (Addr × Obj)} {s : Shared}
    {Q E : Value → Shared → Prop} (B : Below A₀ base outer h₀) (F : Fr h₀ L s.heap m) (X : (hd.heap_39 w.params).In h₀) (N : News h₀ L s.heap news) (T : Top p loose mean mg mb h₀) (hk : cs.kind = .function) (hP : P) (hd : dp + k < recursionLimit) (hu : un + 10 * k < cLine)
    (hret : ∀ t h' tk', s.toks ≤ tk' → Fr h₀ L h' m → News h₀ L h' news → Q (R t) { s with heap := h', toks := tk' }) :
    wpAny (model Challenge.rw_ci0013_01.row.prog w) (ktrTop dp un gd cn cs L a ccd cl outer) (call (.ref f) vs) Q E s :=
  H p loose mean mg mb dp un gd cn cs a ccd cl outer A₀ base h₀ L m news s Q E B F X N T hk hP hd hu hret
def unqB : List Nat → List UInt8
  | [] => []
  | [c] => Str.utf8Of c
  | [c, a] => Str.utf8Of c ++ Str.utf8Of a
  | c :: a :: b :: r => if c = 37 ∧ a ∈ hexL ∧ b ∈ hexL then (hv a * 16 + hv b).toUInt8 :: unqB r else Str.utf8Of c ++ unqB (a :: b :: r)
structure Unq (a b : List Nat) : Prop where
  la : a.length ≤ 10000
  sa : ∀ c ∈ a, Str.isSurrogate c = false
  sb : ∀ c ∈ b, OkC c
  lb : b.length ≤ 100000
  e : unqB a = bytesL b
theorem slice_take (x : Str) (i j : Nat) (hij : i ≤ j) : Txt.slice x (some (i : Int)) (some (j : Int)) = ⟨((x.cps.toList.drop i).take (j - i)).toArray⟩ := by
  have hl : x.cps.toList.length = x.length := Array.length_toList
  have e : Txt.slice x (some (i : Int)) (some (j : Int)) = StrLaws.sliceText x (some ((min i x.length : Nat) : Int)) (some ((min j x.length : Nat) : Int)) := by
    show Txt.slice _ _ _ = Txt.slice _ _ _
    have e2 : Builtin.Str.strSliceIndices (some (i : Int)) (some (j : Int)) 1 x.length = Builtin.Str.strSliceIndices (some ((min i x.length : Nat) : Int)) (some ((min j x.length : Nat) : Int)) 1 x.length := by
      unfold Builtin.Str.strSliceIndices
      dsimp only
      rw [if_neg (by omega : ¬ (i : Int) < 0), if_neg (by omega : ¬ (j : Int) < 0), if_neg (by omega : ¬ ((min i x.length : Nat) : Int) < 0), if_neg (by omega : ¬ ((min j x.length : Nat) : Int) < 0)]
      rw [if_pos (by decide), if_pos (by decide), if_pos (by decide), if_pos (by decide)]
      congr 1 <;> omega
    unfold Txt.slice
    rw [e2]
  rw [e, StrLaws.sliceText_nat x (by omega) (Nat.min_le_right _ _)]
  apply Str.ext'
  apply Array.ext'
  simp only [List.toList_toArray]
  by_cases hi : i ≤ x.length
  · rw [Nat.min_eq_left hi]
    by_cases hj : j ≤ x.length
    · rw [Nat.min_eq_left hj]
    · rw [Nat.min_eq_right (by omega), List.take_of_length_le (by rw [List.length_drop, hl]; omega), List.take_of_length_le (by rw [List.length_drop, hl]; omega)]
  · rw [List.drop_eq_nil_of_le (by rw [hl]; omega), List.drop_eq_nil_of_le (by rw [hl]; omega)]
    simp
theorem hexIn {a : Nat} : (Builtin.Str.occurrences (Str.ofString "0123456789abcdefABCDEF") ⟨#[a]⟩ 0 (Str.ofString "0123456789abcdefABCDEF").length 1).isEmpty = !decide (a ∈ hexL) := by
  have hf := StrLaws.found_one (Str.ofString "0123456789abcdefABCDEF") a
  rw [← Bool.not_not (Builtin.Str.occurrences _ _ _ _ _).isEmpty, hf]
  rfl
theorem unqB_else {c : Nat} {r : List Nat} (h : ¬ (c = 37 ∧ ∃ a b r', r = a :: b :: r' ∧ a ∈ hexL ∧ b ∈ hexL)) : unqB (c :: r) = Str.utf8Of c ++ unqB r := by
  cases r with
  | nil => show Str.utf8Of c = _; simp [unqB]
  | cons a r =>
    cases r with
    | nil => rfl
    | cons b r =>
      rw [unqB, if_neg (fun ⟨h1, h2, h3⟩ => h ⟨h1, a, b, r, rfl, h2, h3⟩)]
theorem unqB_hex {a b : Nat} {r : List Nat} (ha : a ∈ hexL) (hb : b ∈ hexL) : unqB (37 :: a :: b :: r) = (hv a * 16 + hv b).toUInt8 :: unqB r := by
  rw [unqB, if_pos ⟨rfl, ha, hb⟩]
abbrev Trip (ch : Nat) (r : List Nat) : Prop := ch = 37 ∧ ∃ a b r', r = a :: b :: r' ∧ a ∈ hexL ∧ b ∈ hexL
theorem else1 {y : Str} {ch : Nat} {r : List Nat} (hit : y = ⟨#[ch]⟩) (h : (y == Str.ofString "%") = false) : ¬ Trip ch r := by
  rintro ⟨rfl, _⟩
  subst hit
  exact absurd h (by decide)
theorem else2 {y : Str} {ch : Nat} {r : List Nat} (hsl : y = ⟨(r.take 2).toArray⟩) (h : ((y.length : Nat) : Int) ≠ 2) : ¬ Trip ch r := by
  rintro ⟨_, a, b, r', rfl, _⟩
  subst hsl
  exact h rfl
theorem else3 {y : Str} {ch : Nat} {r : List Nat} (hsl : y = ⟨(r.take 2).toArray⟩) (h : (Builtin.Str.occurrences (Str.ofString "0123456789abcdefABCDEF") (Txt.item y 0) 0 (Str.ofString "0123456789abcdefABCDEF").length 1).isEmpty = true) : ¬ Trip ch r := by
  rintro ⟨_, a, b, r', rfl, ha, hb⟩
  subst hsl
  rw [show Txt.item ⟨((a :: b :: r').take 2).toArray⟩ 0 = ⟨#[a]⟩ from item_at _ 0 a rfl, hexIn, decide_eq_true ha] at h
  cases h
theorem else4 {y : Str} {ch : Nat} {r : List Nat} (hsl : y = ⟨(r.take 2).toArray⟩) (h : (Builtin.Str.occurrences (Str.ofString "0123456789abcdefABCDEF") (Txt.item y 1) 0 (Str.ofString "0123456789abcdefABCDEF").length 1).isEmpty = true) : ¬ Trip ch r := by
  rintro ⟨_, a, b, r', rfl, ha, hb⟩
  subst hsl
  rw [show Txt.item ⟨((a :: b :: r').take 2).toArray⟩ 1 = ⟨#[b]⟩ from item_at _ 1 b rfl, hexIn, decide_eq_true hb] at h
  cases h
theorem then_ {z y : Str} {ch : Nat} {r : List Nat} (hit : z = ⟨#[ch]⟩) (hsl : y = ⟨(r.take 2).toArray⟩) (h1 : (z == Str.ofString "%") = true) (h2 : ((y.length : Nat) : Int) = 2)
    (h3 : (Builtin.Str.occurrences (Str.ofString "0123456789abcdefABCDEF") (Txt.item y 0) 0 (Str.ofString "0123456789abcdefABCDEF").length 1).isEmpty = false)
    (h4 : (Builtin.Str.occurrences (Str.ofString "0123456789abcdefABCDEF") (Txt.item y 1) 0 (Str.ofString "0123456789abcdefABCDEF").length 1).isEmpty = false) : Trip ch r := by
  subst hit hsl
  have e1 : (⟨#[ch]⟩ : Str) = ⟨#[37]⟩ := eq_of_beq h1
  cases e1
  have hl : (r.take 2).length = 2 := by
    have : ((r.take 2).toArray.size : Int) = 2 := h2
    rw [List.size_toArray] at this
    omega
  match r, hl with
  | a :: b :: r', _ =>
    rw [show Txt.item ⟨((a :: b :: r').take 2).toArray⟩ 0 = ⟨#[a]⟩ from item_at _ 0 a rfl, hexIn] at h3
    rw [show Txt.item ⟨((a :: b :: r').take 2).toArray⟩ 1 = ⟨#[b]⟩ from item_at _ 1 b rfl, hexIn] at h4
    refine ⟨rfl, a, b, r', rfl, ?_, ?_⟩
    · simpa using h3
    · simpa using h4
  | [a], h => simp at h
  | [], h => simp at h
section
variable {prog : Program} {w : World} {A : Around} {E : Value → Shared → Prop} {s : Shared}
theorem call_bytesB {h₀ : Heap} {L D : Addr} {m : Str → Option Value} {news : List (Addr × Obj)} {ys : Array Value} {c : Nat} {B : List UInt8} {u : List Nat} {Q : Value → Shared → Prop} (F : Fr h₀ L s.heap m) (N : News h₀ L s.heap ((D, W.listOf ys c) :: news)) (hi : IntsAre ys.toList (B.map fun b => (b.toNat : Int))) (hB : B = bytesL u) (hz : B.length ≤ sizeLine) (hh : A.handled = none)
    (h : ∀ h' t k, Fr h₀ L h' m → News h₀ L h' ((D, W.listOf ys c) :: news) → Q (.bytes (bytesL u).toArray t) { s with heap := h', toks := k }) : wpAny (model prog w) A (call (.type "bytes") [.ref D]) Q E s := by
  refine bytes_K (vs := ys.toList) F N ⟨_, (N _ (.head _)).1, rfl, _, by rw [Array.toArray_toList]⟩ hi (fun n hn => ?_) (by rw [hi.length, List.length_map]; exact hz) hh fun h' t k F' N' _ => ?_
  · obtain ⟨b, _, e⟩ := List.mem_map.1 hn
    have := b.toNat_lt
    omega
  · rw [List.map_map]
    have e : B.map ((fun n : Int => n.toNat.toUInt8) ∘ fun b => (b.toNat : Int)) = B := by
      rw [List.map_congr_left (g := _root_.id) (fun b _ => ?_), List.map_id]
      show ((b.toNat : Int)).toNat.toUInt8 = b
      rw [Int.toNat_natCast]
      exact UInt8.ofNat_toNat
    rw [e, hB]
    exact h h' t k F' N'
theorem call_encodeX {y : Str} {c : Nat} {t u : Tok} {Q : Value → Shared → Prop} (hy : y = ⟨#[c]⟩) (hc : Str.isSurrogate c = false) (h : Q (.bytes (Str.utf8Of c).toArray s.toks) { s with toks := s.toks + 1 }) :
    wpAny (model prog w) A (call (.builtin "str.encode") [.str y t, .str (Str.ofString "utf-8") u]) Q E s := by
  subst hy
  exact call_encode hc h
end
theorem hv_lt : ∀ a ∈ hexL, hv a < 16 := by decide
theorem wpAny_of_held {p : Prop} (h : p) : p := h
theorem uq_same {z : Str} {v v0 : Value} {a b : Option Value} {u0 m0 : Str → Option Value} (h2 : ∀ p ∈ [(Str.ofString "place", v)], z ≠ p.1) (h3 : [Str.ofString "pair"].contains z = false) :
    (if z = Str.ofString "place" then a else if z = Str.ofString "pair" then b else kstB (fun z => if [Str.ofString "pair"].contains z = true then u0 z else m0 z) [(Str.ofString "place", v0)] z) = m0 z := by
  have hz1 : z ≠ Str.ofString "place" := h2 _ (.head _)
  have hz2 : z ≠ Str.ofString "pair" := by
    intro e
    subst e
    exact absurd h3 (by decide)
  rw [if_neg hz1, if_neg hz2]
  show (if z = Str.ofString "place" then _ else _) = _
  rw [if_neg hz1]
  show (if [Str.ofString "pair"].contains z = true then u0 z else m0 z) = m0 z
  rw [h3]
  rfl
structure UqS where
  i : Nat
  t : Tok
  ys : Array Value
  c : Nat
  B : List UInt8
def Held (p : Prop) : Prop := p
theorem Held.go {p : Prop} (h : Held p) : p := h
local macro_rules | `(tactic| walk_at "exec While Compare") => `(tactic| (k_here; refine Held.go ?_))
local macro_rules | `(tactic| walk_at "getMethod str") => `(tactic| (k_here; (with_reducible show wpAny _ _ (getMethod (Value.str _ _) (Str.ofString "encode") _) _ _ _); refine gm_encode ?_))
local macro_rules | `(tactic| walk_at "call builtin:str.encode") => `(tactic| (k_here; refine call_encodeX (by assumption) (by assumption) ?_))
local macro_rules | `(tactic| walk_at "call builtin:list.extend") => `(tactic| (k_here; k_dflt (refine' call_extend ?a ?b ?c ?d ?e ?f ?_; (case a => exact rfl); (case b => k_asm); (case c => k_asm); (case d => (first | exact lt_ne0 (by assumption) | exact lt_ne1 (by assumption) | exact allLt_ne0 (by assumption) | exact allLt_ne1 (by assumption))); (case e => assumption); (case f => assumption); intro h' tk' ys' c' F' N' hI')))
local macro_rules | `(tactic| walk_at "call type:bytes") => `(tactic| (k_here; k_dflt (refine' call_bytesB ?a ?b ?c ?d ?e ?f ?_; (case a => k_asm); (case b => k_asm); (case c => assumption); (case d => assumption); (case e => assumption); (case f => exact rfl); intro h' t' k' F' N')))
local macro_rules | `(tactic| walk_at "call builtin:bytes.decode") => `(tactic| (k_here; refine call_decode (by assumption) (by assumption) ?_; intro t' k'))
local macro_rules | `(tactic| walk_at "call type:int") => `(tactic| (k_here; refine Held.go ?_))
local macro_rules | `(tactic| k_all) => `(tactic| (first | exact lt_ne0 (by assumption) | exact lt_ne1 (by assumption) | exact allLt_ne0 (by assumption) | exact allLt_ne1 (by assumption)))
set_option maxHeartbeats 8000000 in
theorem unquote_spec (w : World) (x : Str) (tk : Tok) (u : List Nat) : SpecZ w 3 59 (Unq x.cps.toList u) [.str x tk] (fun t => .str ⟨u.toArray⟩ t) := by
  unfold SpecZ
  w_top off
  k_fill
  intro p loose mean mg mb dp un gd cn cs ac ccd cl outer A₀ base h₀ L m news s Q E B F X N T hk hP hd hu hret
  obtain ⟨hP1, hP2, hP3, hP4, hP5⟩ := hP
  rw [Array.length_toList] at hP1
  have hP1 : x.length ≤ 10000 := hP1
  refine wpAny_call (codeAny_toks ?_)
  k_dflt (refine' code_def ?k1 ?k2 ?k3 ?k4 ?k5 ?kA ?kF ?kK ?k6 ?k7 ?k8 ?k9 ?kB ?_ ?c2 ?c3 ?c4 ?c5; (case kA => exact rfl); (case kF => exact rfl); (case kK => first | exact rfl | assumption); (case k1 => k_asm); (case k2 => k_asm); (case k3 => k_asm); (case k4 => k_asm); (case k5 => k_asm); (case k6 => k_is); (case k7 => k_is); (case k8 => first | ktr_room); (case k9 => first | exact BindsTo.of_eq rfl | exact binds_K (by k_in) rfl (by k_is) rfl rfl rfl); (case c5 => decide); (case kB => exact locs rfl); (case c2 => exact rfl); (case c3 => exact rfl); (case c4 => exact rfl); k_whole; intro g' L' h' FG' F' N' B' X' T'; (try dsimp only); (try k_lift B'); (try k_fold))
  k_steps
  rename_i F9 N9
  refine ksw_while (fun c : UqS => (_, W.listOf c.ys c.c) :: news) (fun c => [(Str.ofString "place", .int (c.i : Int) c.t)]) (fun c => IntsAre c.ys.toList (c.B.map fun b => (b.toNat : Int)) ∧ c.B ++ unqB (x.cps.toList.drop c.i) = bytesL u ∧ c.i ≤ x.length ∧ c.B.length ≤ 4 * c.i) ["pair"] (fun _ => True) (fun c => x.length - c.i) ⟨0, _, #[], 0, []⟩ F9 N9 ⟨.nil, hP5, Nat.zero_le _, Nat.zero_le _⟩ (fun p hp => by rw [List.mem_singleton.mp hp]; exact rfl) trivial (fun c u0 h1 tk1 hf _ F1 N1 => ?_)
  obtain ⟨hI, hB, hi, hBl⟩ := hf
  have hys := hI.length
  rw [Array.length_toList, List.length_map] at hys
  have hys2 : c.ys.size ≤ 40000 := by omega
  by_cases hlt : c.i < x.length
  · obtain ⟨ch, r, hcr⟩ : ∃ ch r, x.cps.toList.drop c.i = ch :: r := by
      cases h : x.cps.toList.drop c.i with
      | nil =>
        have := congrArg List.length h
        rw [List.length_drop, Array.length_toList] at this
        exact absurd this (Nat.sub_ne_zero_of_lt hlt)
      | cons ch r => exact ⟨ch, r, rfl⟩
    have hch : x.cps[c.i]? = some ch := by
      have := congrArg (·[0]?) hcr
      simpa using this
    have hit := item_at x c.i ch hch
    have hsur : Str.isSurrogate ch = false := hP2 ch (by
      have : ch ∈ x.cps.toList.drop c.i := by rw [hcr]; exact .head _
      exact List.mem_of_mem_drop this)
    have hroom : (c.B.map fun b => (b.toNat : Int)).length + (Str.utf8Of ch).length ≤ sizeLine := by
      have := utf8_len ch
      rw [sizeLine_eq, List.length_map]; omega
    have hsl : Txt.slice x (some ((c.i : Int) + 1)) (some ((c.i : Int) + 3)) = ⟨(r.take 2).toArray⟩ := by
      have h := slice_take x (c.i + 1) (c.i + 3) (by omega)
      have e : x.cps.toList.drop (c.i + 1) = r := by rw [← List.drop_drop, hcr]; rfl
      rw [e, show c.i + 3 - (c.i + 1) = 2 by omega] at h
      exact h
    rw [hcr] at hB
    have hdr : x.cps.toList.drop (c.i + 1) = r := by rw [← List.drop_drop, hcr]; rfl
    have hgo : ∀ B' : List UInt8, B' = c.B ++ Str.utf8Of ch → ¬ Trip ch r → B' ++ unqB (x.cps.toList.drop (c.i + 1)) = bytesL u ∧ c.i + 1 ≤ x.length ∧ B'.length ≤ 4 * (c.i + 1) := by
      rintro _ rfl hn
      have := utf8_len ch
      refine ⟨?_, hlt, ?_⟩
      · rw [hdr, List.append_assoc, ← unqB_else hn]; exact hB
      · rw [List.length_append]; omega
    k_steps
    · refine ksw_end ⟨c.i + 1, _, _, _, c.B ++ Str.utf8Of ch⟩ (by k_asm) (by assumption) (fun p hp => hp) ⟨?_, hgo _ rfl (else3 hsl (by with_reducible assumption))⟩ (fun p hp => by rw [List.mem_singleton.mp hp]; exact rfl) (fun z h2 h3 => uq_same h2 h3) trivial ?_
      all_goals first | (rw [List.map_append]; assumption) | (rw [List.mem_singleton.mp (by assumption)]; rfl) | (dsimp only; omega) | skip
    · refine ksw_end ⟨c.i + 1, _, _, _, c.B ++ Str.utf8Of ch⟩ (by k_asm) (by assumption) (fun p hp => hp) ⟨?_, hgo _ rfl (else4 hsl (by with_reducible assumption))⟩ (fun p hp => by rw [List.mem_singleton.mp hp]; exact rfl) (fun z h2 h3 => uq_same h2 h3) trivial ?_
      all_goals first | (rw [List.map_append]; assumption) | (rw [List.mem_singleton.mp (by assumption)]; rfl) | (dsimp only; omega) | skip
    · obtain ⟨rfl, a, b, r', rfl, ha, hb⟩ : Trip ch r := then_ hit hsl (by with_reducible assumption) (by with_reducible assumption) (by with_reducible assumption) (by with_reducible assumption)
      show wpAny _ _ _ _ _ _
      refine call_hex hsl ⟨ha, hb⟩ ?_
      have hby : hv a * 16 + hv b < 256 := by
        have := hv_lt a ha
        have := hv_lt b hb
        omega
      have hI2 : ∀ t, IntsAre (c.ys.push (.int ((hv a * 16 + hv b : Nat) : Int) t)).toList ((c.B ++ [(hv a * 16 + hv b).toUInt8]).map fun b => (b.toNat : Int)) := by
        intro t
        rw [Array.toList_push, List.map_append]
        refine IntsAre.append hI ?_
        show IntsAre _ [(((hv a * 16 + hv b).toUInt8.toNat : Nat) : Int)]
        rw [toU8 hby]
        exact .cons _ _ .nil
      k_steps
      have hln : (List.drop c.i x.cps.toList).length = r'.length + 3 := by rw [hcr]; rfl
      rw [List.length_drop, Array.length_toList] at hln
      have hx3 : c.i + 3 ≤ x.length := by
        have : x.cps.size = x.length := rfl
        omega
      have hdr3 : x.cps.toList.drop (c.i + 3) = r' := by rw [← List.drop_drop, hcr]; rfl
      refine ksw_end ⟨c.i + 3, _, _, _, c.B ++ [(hv a * 16 + hv b).toUInt8]⟩ (by k_asm) (by assumption) (fun p hp => hp) ⟨hI2 _, ?_, hx3, ?_⟩ (fun p hp => by rw [List.mem_singleton.mp hp]; exact rfl) (fun z h2 h3 => uq_same h2 h3) trivial ?_
      · rw [hdr3, List.append_assoc]
        rw [unqB_hex ha hb] at hB
        exact hB
      · rw [List.length_append]
        show c.B.length + 1 ≤ 4 * (c.i + 3)
        omega
      all_goals first | (rw [List.map_append]; assumption) | (rw [List.mem_singleton.mp (by assumption)]; rfl) | (dsimp only; omega) | skip
    · refine ksw_end ⟨c.i + 1, _, _, _, c.B ++ Str.utf8Of ch⟩ (by k_asm) (by assumption) (fun p hp => hp) ⟨?_, hgo _ rfl (else2 hsl (by with_reducible assumption))⟩ (fun p hp => by rw [List.mem_singleton.mp hp]; exact rfl) (fun z h2 h3 => uq_same h2 h3) trivial ?_
      all_goals first | (rw [List.map_append]; assumption) | (rw [List.mem_singleton.mp (by assumption)]; rfl) | (dsimp only; omega) | skip
    · refine ksw_end ⟨c.i + 1, _, _, _, c.B ++ Str.utf8Of ch⟩ (by k_asm) (by assumption) (fun p hp => hp) ⟨?_, hgo _ rfl (else1 hit (by with_reducible assumption))⟩ (fun p hp => by rw [List.mem_singleton.mp hp]; exact rfl) (fun z h2 h3 => uq_same h2 h3) trivial ?_
      all_goals first | (rw [List.map_append]; assumption) | (rw [List.mem_singleton.mp (by assumption)]; rfl) | (dsimp only; omega) | skip
  · have hBe : c.B = bytesL u := by
      have e : x.cps.toList.drop c.i = [] := List.drop_eq_nil_of_le (by rw [Array.length_toList]; exact Nat.not_lt.mp hlt)
      rw [e, unqB, List.append_nil] at hB
      exact hB
    have hBz : c.B.length ≤ sizeLine := by rw [sizeLine_eq]; omega
    k_steps
    (refine Ret.end hret (by assumption) (by k_asm) (by (first | k_asm | (refine cb_drop (by k_asm) (fun p hp => ?_); repeat (first | exact hp | refine List.Mem.tail _ ?_)))) ?_; try exact ⟨_, rfl⟩)
end Mine
end

section
open PySem PySem.W PyProof.Rows PySem.Calls PySem.Spec
set_option Elab.async false
set_option maxRecDepth 100000
namespace Mine
local macro_rules | `(tactic| k_all) => `(tactic| (first | exact lt_ne0 (by assumption) | exact lt_ne1 (by assumption) | exact allLt_ne0 (by assumption) | exact allLt_ne1 (by assumption)))
local macro_rules | `(tactic| walk_at "call ref") => `(tactic| (k_here; (with_reducible show wpAny _ _ (call (Value.ref 59) _) _ _ _); k_dflt (refine' call_ofZ (unquote_spec _ _ _ _) ?k1 ?k2 ?k3 ?k4 ?k5 ?k6 ?k7 ?k8 ?k9 ?_; (case k1 => k_asm); (case k2 => k_asm); (case k3 => k_asm); (case k4 => k_asm); (case k5 => k_asm); (case k6 => first | exact rfl | assumption); (case k7 => assumption); (case k8 => ktr_room); (case k9 => ktr_units); intro t' h' tk' hl' F' N'; (try dsimp only at hl'))))
local macro_rules | `(tactic| walk_at "UnrEnd") => `(tactic| (k_here; k_dflt (refine UnrEnd.intro (by k_asm) (by assumption) _ (fun p hp => hp) (by (first | exact lt_ne0 (by assumption) | exact lt_ne1 (by assumption) | exact allLt_ne0 (by assumption) | exact allLt_ne1 (by assumption))) ?_)))
theorem eq_lists {u : List Nat} {y : Str} (h : ((⟨u.toArray⟩ : Str) == y) = true) : u = y.cps.toList := by
  have e : (⟨u.toArray⟩ : Str) = y := eq_of_beq h
  rw [← e]
set_option maxHeartbeats 8000000 in
theorem unqurl_spec (w : World) (x : Str) (tk : Tok) (u1 u2 u3 : List Nat) : SpecZ w 5 402 (Unq x.cps.toList u1 ∧ Unq u1 u2 ∧ Unq u2 u3 ∧ (u1 = x.cps.toList → u3 = u1) ∧ (u2 = u1 → u3 = u1)) [.str x tk] (fun t => .str ⟨u3.toArray⟩ t) := by
  unfold SpecZ
  w_top off
  k_fill
  intro p loose mean mg mb dp un gd cn cs ac ccd cl outer A₀ base h₀ L m news s Q E B F X N T hk hP hd hu hret
  obtain ⟨hP1, hP2, hP3, hP4, hP5⟩ := hP
  refine wpAny_call (codeAny_toks ?_)
  k_dflt (refine' code_def ?k1 ?k2 ?k3 ?k4 ?k5 ?kA ?kF ?kK ?k6 ?k7 ?k8 ?k9 ?kB ?_ ?c2 ?c3 ?c4 ?c5; (case kA => exact rfl); (case kF => exact rfl); (case kK => first | exact rfl | assumption); (case k1 => k_asm); (case k2 => k_asm); (case k3 => k_asm); (case k4 => k_asm); (case k5 => k_asm); (case k6 => k_is); (case k7 => k_is); (case k8 => first | ktr_room); (case k9 => first | exact BindsTo.of_eq rfl | exact binds_K (by k_in) rfl (by k_is) rfl rfl rfl); (case c5 => decide); (case kB => exact locs rfl); (case c2 => exact rfl); (case c3 => exact rfl); (case c4 => exact rfl); k_whole; intro g' L' h' FG' F' N' B' X' T'; (try dsimp only); (try k_lift B'); (try k_fold))
  k_steps
  · have e := eq_lists (u := u1) (by assumption)
    rw [hP4 e, e] at hret
    (refine Ret.end hret (by assumption) (by k_asm) (by (first | k_asm | (refine cb_drop (by k_asm) (fun p hp => ?_); repeat (first | exact hp | refine List.Mem.tail _ ?_)))) ?_; try exact ⟨_, rfl⟩)
  · have e := eq_lists (u := u2) (y := ⟨u1.toArray⟩) (by assumption)
    rw [hP5 e] at hret
    (refine Ret.end hret (by assumption) (by k_asm) (by (first | k_asm | (refine cb_drop (by k_asm) (fun p hp => ?_); repeat (first | exact hp | refine List.Mem.tail _ ?_)))) ?_; try exact ⟨_, rfl⟩)
  · have e : u3 = u2 := eq_lists (u := u3) (y := ⟨u2.toArray⟩) (by assumption)
    rw [e] at hret
    (refine Ret.end hret (by assumption) (by k_asm) (by (first | k_asm | (refine cb_drop (by k_asm) (fun p hp => ?_); repeat (first | exact hp | refine List.Mem.tail _ ?_)))) ?_; try exact ⟨_, rfl⟩)
  · (refine Ret.end hret (by assumption) (by k_asm) (by (first | k_asm | (refine cb_drop (by k_asm) (fun p hp => ?_); repeat (first | exact hp | refine List.Mem.tail _ ?_)))) ?_; try exact ⟨_, rfl⟩)
end Mine
end

section
open PySem PySem.W PyProof.Rows PySem.Calls PySem.Spec
set_option Elab.async false
set_option maxRecDepth 100000
namespace Mine
local macro_rules | `(tactic| walk_at "pad") => `(tactic| fail)
def SAFE : List Str := [Str.ofString "http:", Str.ofString "https:", Str.ofString "mailto:", Str.ofString "tel:", Str.ofString "ftp:", Str.ofString "ftps:", Str.ofString "irc:", Str.ofString "ircs:"]
def GOOD : List Str := [Str.ofString "data:image/gif;", Str.ofString "data:image/png;", Str.ofString "data:image/jpeg;", Str.ofString "data:image/webp;"]
def HEADS : List Str := [Str.ofString "/", Str.ofString "#", Str.ofString "?"]
def preL (x : Str) (l : List Str) : Bool := l.any fun y => Txt.startswith x y
def noColon (o : Option Str) : Bool := match o with
  | some y => !!(Builtin.Str.occurrences y (Str.ofString ":") 0 y.length 1).isEmpty
  | none => true
def safeL (x : Str) : Bool := preL x SAFE || preL x GOOD || preL x HEADS || noColon (Txt.splitMax x (Str.ofString "/") 1)[0]?
theorem safe_a {x : Str} {b : Bool} (h : b = preL x SAFE) (hb : b = true) : safeL x = true := by
  unfold safeL
  rw [← h, hb]
  rfl
theorem safe_b {x : Str} {b c : Bool} (h1 : c = preL x SAFE) (_ : c = false) (h : b = preL x GOOD) (hb : b = true) : safeL x = true := by
  unfold safeL
  rw [← h, hb, Bool.or_true]
  rfl
theorem safe_c {x : Str} {b : Bool} (h : b = preL x HEADS) (hb : b = true) : safeL x = true := by
  unfold safeL
  rw [← h, hb, Bool.or_true]
  rfl
theorem safe_d {x y : Str} {b c d : Bool} {l : List (Str × Tok)} (h1 : b = preL x SAFE) (hb1 : b = false) (h2 : c = preL x GOOD) (hb2 : c = false) (h3 : d = preL x HEADS) (hb3 : d = false)
    (h4 : l.map (fun z => z.fst) = Txt.splitMax x (Str.ofString "/") 1) (h5 : (l.map (fun z => z.fst))[Int.toNat 0]? = some y) : safeL x = !!(Builtin.Str.occurrences y (Str.ofString ":") 0 y.length 1).isEmpty := by
  unfold safeL
  rw [← h1, hb1, ← h2, hb2, ← h3, hb3, ← h4]
  rw [show (l.map (fun z => z.fst))[0]? = some y from h5]
  rfl
def strsOf : List Value → List Str
  | .str y _ :: l => y :: strsOf l
  | _ :: l => strsOf l
  | [] => []
def allStr : List Value → Bool
  | .str _ _ :: l => allStr l
  | _ :: _ => false
  | [] => true
theorem strsAre_of : ∀ {l : List Value}, allStr l = true → StrsAre l (strsOf l)
  | [], _ => .nil
  | v :: l, h => by
    cases v with
    | str y t => exact .cons y t (strsAre_of (l := l) h)
    | _ => cases h
section
variable {prog : Program} {w : World} {A : Around} {E : Value → Shared → Prop} {s : Shared}
theorem call_startsK {h₀ : Heap} {L : Addr} {m : Str → Option Value} {a : Addr} {x : Str} {t : Tok} {o : Obj} {l : List Value} {n : Nat} {Q : Value → Shared → Prop} (F : Fr h₀ L s.heap m) (ho : h₀.get? a = some o) (hc : o.cls = .type "tuple") (hd : o.data = .seq l.toArray n) (hi : allStr l = true) (h : ∀ b, b = preL x (strsOf l) → Q (.bool b) s) :
    wpAny (model prog w) A (call (.builtin "str.startswith") [.str x t, .ref a]) Q E s :=
  call_starts (items := l.toArray) ⟨o, F.keep _ _ ho, hc, n, hd⟩ (strsAre_of hi) (h _ rfl)
theorem call_startsN {h₀ : Heap} {L : Addr} {news : List (Addr × Obj)} {a : Addr} {x : Str} {t : Tok} {l : List Value} {n : Nat} {Q : Value → Shared → Prop} (N : News h₀ L s.heap news) (ho : (a, ({ cls := .type "tuple", data := .seq l.toArray n } : Obj)) ∈ news) (hi : allStr l = true) (h : ∀ b, b = preL x (strsOf l) → Q (.bool b) s) :
    wpAny (model prog w) A (call (.builtin "str.startswith") [.str x t, .ref a]) Q E s :=
  call_starts (items := l.toArray) ⟨_, (N _ ho).1, rfl, n, rfl⟩ (strsAre_of hi) (h _ rfl)
end
local macro_rules | `(tactic| walk_at "call builtin:str.startswith") => `(tactic| (k_here; (with_reducible show wpAny _ _ (call (Value.builtin "str.startswith") [Value.str _ _, Value.ref _]) _ _ _); k_dflt (refine' call_startsK ?a ?b ?c ?d ?e ?_; (case a => k_asm); (case b => exact (by with_reducible assumption : Frag.In _ _) _ _ (by k_is)); (case c => exact rfl); (case d => exact rfl); (case e => exact rfl); intro b' hb')))
local macro_rules | `(tactic| walk_at "call builtin:str.startswith") => `(tactic| (k_here; (with_reducible show wpAny _ _ (call (Value.builtin "str.startswith") [Value.str _ _, Value.ref _]) _ _ _); k_dflt (refine' call_startsN ?a ?b ?e ?_; (case a => k_asm); (case b => exact .head _); (case e => exact rfl); intro b' hb')))
local macro_rules | `(tactic| k_all) => `(tactic| (first | exact lt_ne0 (by assumption) | exact lt_ne1 (by assumption) | exact allLt_ne0 (by assumption) | exact allLt_ne1 (by assumption)))
set_option maxHeartbeats 8000000 in
theorem safeurl_spec (w : World) (x : Str) (tk : Tok) : SpecZ w 2 409 (x.length ≤ 10000) [.str x tk, .ref 194, .ref 195] (fun t => .bool (safeL x)) := by
  unfold SpecZ
  w_top off
  k_fill
  intro p loose mean mg mb dp un gd cn cs ac ccd cl outer A₀ base h₀ L m news s Q E B F X N T hk hP hd hu hret
  refine wpAny_call (codeAny_toks ?_)
  k_dflt (refine' code_def ?k1 ?k2 ?k3 ?k4 ?k5 ?kA ?kF ?kK ?k6 ?k7 ?k8 ?k9 ?kB ?_ ?c2 ?c3 ?c4 ?c5; (case kA => exact rfl); (case kF => exact rfl); (case kK => first | exact rfl | assumption); (case k1 => k_asm); (case k2 => k_asm); (case k3 => k_asm); (case k4 => k_asm); (case k5 => k_asm); (case k6 => k_is); (case k7 => k_is); (case k8 => first | ktr_room); (case k9 => first | exact BindsTo.of_eq rfl | exact binds_K (by k_in) rfl (by k_is) rfl rfl rfl); (case c5 => decide); (case kB => exact locs rfl); (case c2 => exact rfl); (case c3 => exact rfl); (case c4 => exact rfl); k_whole; intro g' L' h' FG' F' N' B' X' T'; (try dsimp only); (try k_lift B'); (try k_fold))
  k_steps
  · rw [safe_a (by assumption) (by assumption)] at hret
    (refine Ret.end hret (by assumption) (by k_asm) (by (first | k_asm | (refine cb_drop (by k_asm) (fun p hp => ?_); repeat (first | exact hp | refine List.Mem.tail _ ?_)))) ?_; try exact ⟨_, rfl⟩)
    exact ⟨0, rfl⟩
  · rw [safe_b (by assumption) (by assumption) (by assumption) (by assumption)] at hret
    (refine Ret.end hret (by assumption) (by k_asm) (by (first | k_asm | (refine cb_drop (by k_asm) (fun p hp => ?_); repeat (first | exact hp | refine List.Mem.tail _ ?_)))) ?_; try exact ⟨_, rfl⟩)
    exact ⟨0, rfl⟩
  · rw [safe_c (by assumption) (by assumption)] at hret
    (refine Ret.end hret (by assumption) (by k_asm) (by (first | k_asm | (refine cb_drop (by k_asm) (fun p hp => ?_); repeat (first | exact hp | refine List.Mem.tail _ ?_)))) ?_; try exact ⟨_, rfl⟩)
    exact ⟨0, rfl⟩
  · rw [safe_d (by assumption) (by assumption) (by assumption) (by assumption) (by assumption) (by assumption) (by assumption) (by assumption)] at hret
    (refine Ret.end hret (by assumption) (by k_asm) (by (first | k_asm | (refine cb_drop (by k_asm) (fun p hp => ?_); repeat (first | exact hp | refine List.Mem.tail _ ?_)))) ?_; try exact ⟨_, rfl⟩)
    exact ⟨0, rfl⟩
end Mine
end

section
open PySem PySem.W PyProof.Rows PySem.Calls PySem.Spec
set_option Elab.async false
set_option maxRecDepth 100000
namespace Mine
/-- a spec that asks of the ground -/
def SpecH (w : World) (k : Nat) (f : Addr) (P : Heap → List (Addr × Obj) → Prop) (vs : List Value) (R : Tok → Value) : Prop :=
  ∀ (p : Program) (loose : List Str) (mean : ExcName → Option Value) (mg mb : Str → Option Value)
    (dp un : Nat) (gd : Option (List Code)) (cn : Str) (cs : Scope) (a : Addr) (ccd : Value) (cl : List (Str × Addr)) (outer : List Env) (A₀ : Around) (base h₀ : Heap) (L : Addr) (m : Str → Option Value) (news : List (Addr × Obj)) (s : Shared)
    (Q E : Value → Shared → Prop),
    Below A₀ base outer h₀ → Fr h₀ L s.heap m → (hd.heap_39 w.params).In h₀ → News h₀ L s.heap news → Top p loose mean mg mb h₀ → cs.kind = .function → P h₀ news → dp + k < recursionLimit → un + 10 * k < cLine →
    Ret h₀ L m news s Q R →
    wpAny (model Challenge.rw_ci0013_01.row.prog w) (ktrTop dp un gd cn cs L a ccd cl outer) (call (.ref f) vs) Q E s
theorem call_ofH {w : World} {k : Nat} {f : Addr} {P : Heap → List (Addr × Obj) → Prop} {vs : List Value} {R : Tok → Value} (H : SpecH w k f P vs R)
    {p : Program} {loose : List Str} {mean : ExcName → Option Value} {mg mb : Str → Option Value}
    {dp un : Nat} {gd : Option (List Code)} {cn : Str} {cs : Scope} {a : Addr} {ccd : Value} {cl : List (Str × Addr)} {outer : List Env} {A₀ : Around} {base h₀ : Heap} {L : Addr} {m : Str → Option Value} {news : List (Addr × Obj)} {s : Shared}
    {Q E : Value → Shared → Prop} (B : Below A₀ base outer h₀) (F : Fr h₀ L s.heap m) (X : (hd.heap_39 w.params).In h₀) (N : News h₀ L s.heap news) (T : Top p loose mean mg mb h₀) (hk : cs.kind = .function) (hP : P h₀ news) (hd : dp + k < recursionLimit) (hu : un + 10 * k < cLine)
    (hret : ∀ t h' tk', s.toks ≤ tk' → Fr h₀ L h' m → News h₀ L h' news → Q (R t) { s with heap := h', toks := tk' }) :
    wpAny (model Challenge.rw_ci0013_01.row.prog w) (ktrTop dp un gd cn cs L a ccd cl outer) (call (.ref f) vs) Q E s :=
  H p loose mean mg mb dp un gd cn cs a ccd cl outer A₀ base h₀ L m news s Q E B F X N T hk hP hd hu hret
theorem lift_list {h₀ g : Heap} {L S : Addr} {m : Str → Option Value} {vs : Array Value} (h : h₀.IsList S vs) (F : Fr h₀ L g m) : g.IsList S vs := by
  obtain ⟨o, ho, r⟩ := h
  exact ⟨o, F.keep _ _ ho, r⟩
def numL (ns : List Int) (k : Nat) : Int := if 0 < ns.length then ns.getD (k % ns.length) 0 else 0
theorem numL_pos {ns : List Int} {k : Nat} (h : 0 < ns.length) : numL ns k = ns.getD (((k : Nat) : Int).fmod ((ns.length : Nat) : Int)).toNat 0 := by
  unfold numL
  rw [if_pos h, Int.fmod_eq_emod_of_nonneg _ (Int.natCast_nonneg _), ← Int.natCast_emod, Int.toNat_natCast]
theorem numL_neg {ns : List Int} {k : Nat} (h : ¬ 0 < ns.length) : numL ns k = 0 := if_neg h
local macro_rules | `(tactic| k_all) => `(tactic| (first | exact lt_ne0 (by assumption) | exact lt_ne1 (by assumption) | exact allLt_ne0 (by assumption) | exact allLt_ne1 (by assumption)))
set_option maxHeartbeats 8000000 in
theorem number_spec (w : World) (S : Addr) (ns : List Int) (vs : List Value) (k : Nat) (t : Tok) : SpecH w 2 419 (fun h₀ _ => h₀.IsList S vs.toArray ∧ IntsAre vs ns ∧ ns.length ≤ 63 ∧ k ≤ 100) [.ref S, .int (k : Int) t] (fun t => .int (numL ns k) t) := by
  unfold SpecH
  w_top off
  k_fill
  intro p loose mean mg mb dp un gd cn cs ac ccd cl outer A₀ base h₀ L m news s Q E B F X N T hk hP hd hu hret
  obtain ⟨hS, hI, hn, hk9⟩ := hP
  refine wpAny_call (codeAny_toks ?_)
  k_dflt (refine' code_def ?k1 ?k2 ?k3 ?k4 ?k5 ?kA ?kF ?kK ?k6 ?k7 ?k8 ?k9 ?kB ?_ ?c2 ?c3 ?c4 ?c5; (case kA => exact rfl); (case kF => exact rfl); (case kK => first | exact rfl | assumption); (case k1 => k_asm); (case k2 => k_asm); (case k3 => k_asm); (case k4 => k_asm); (case k5 => k_asm); (case k6 => k_is); (case k7 => k_is); (case k8 => first | ktr_room); (case k9 => first | exact BindsTo.of_eq rfl | exact binds_K (by k_in) rfl (by k_is) rfl rfl rfl); (case c5 => decide); (case kB => exact locs rfl); (case c2 => exact rfl); (case c3 => exact rfl); (case c4 => exact rfl); k_whole; intro g' L' h' FG' F' N' B' X' T'; (try dsimp only); (try k_lift B'); (try k_fold))
  have hS2 := lift_list hS (by assumption)
  k_steps
  · rw [numL_pos (by assumption)] at hret
    (refine Ret.end hret (by assumption) (by k_asm) (by (first | k_asm | (refine cb_drop (by k_asm) (fun p hp => ?_); repeat (first | exact hp | refine List.Mem.tail _ ?_)))) ?_; try exact ⟨_, rfl⟩)
  · rw [numL_neg (by assumption)] at hret
    (refine Ret.end hret (by assumption) (by k_asm) (by (first | k_asm | (refine cb_drop (by k_asm) (fun p hp => ?_); repeat (first | exact hp | refine List.Mem.tail _ ?_)))) ?_; try exact ⟨_, rfl⟩)
end Mine
end

section
set_option Elab.async false
set_option maxRecDepth 100000
namespace Mine
open PySem
theorem unescL_ne {c : Nat} {r : List Nat} (h : c ≠ 38) : unescL (c :: r) = c :: unescL r := by
  have e : findM (c :: r) = (findM r).map fun x => (x.1 + 1, x.2) := by rw [findM_cons, if_neg h]
  cases h2 : findM r with
  | none => rw [h2] at e; rw [unescL_none e, unescL_none h2]
  | some jk =>
    obtain ⟨j, k⟩ := jk
    rw [h2] at e
    rw [unescL_some (j := j + 1) (k := k) e, unescL_some h2]
    have e1 : (c :: r).drop (j + 1 + 1) = r.drop (j + 1) := rfl
    have e2 : (c :: r).drop (j + 1 + 1 + k) = r.drop (j + 1 + k) := by rw [show j + 1 + 1 + k = (j + 1 + k) + 1 by omega]; rfl
    rw [e1, e2]
    rfl
theorem unescL_hit {k : Nat} {r : List Nat} (h : nameLen r = some k) : unescL (38 :: r) = replL (r.take k) ++ unescL (r.drop k) := by
  have e : findM (38 :: r) = some (0, k) := by rw [findM_cons, if_pos rfl, h]
  rw [unescL_some e]
  have e2 : (38 :: r).drop (0 + 1 + k) = r.drop k := by rw [show 0 + 1 + k = k + 1 by omega]; rfl
  rw [e2]
  rfl
theorem unescL_miss {r : List Nat} (h : nameLen r = none) : unescL (38 :: r) = 38 :: unescL r := by
  have e : findM (38 :: r) = (findM r).map fun x => (x.1 + 1, x.2) := by rw [findM_cons, if_pos rfl, h]
  cases h2 : findM r with
  | none => rw [h2] at e; rw [unescL_none e, unescL_none h2]
  | some jk =>
    obtain ⟨j, k⟩ := jk
    rw [h2] at e
    rw [unescL_some (j := j + 1) (k := k) e, unescL_some h2]
    have e1 : (38 :: r).drop (j + 1 + 1) = r.drop (j + 1) := rfl
    have e2 : (38 :: r).drop (j + 1 + 1 + k) = r.drop (j + 1 + k) := by rw [show j + 1 + 1 + k = (j + 1 + k) + 1 by omega]; rfl
    rw [e1, e2]
    rfl
theorem unescL_nil : unescL [] = [] := unescL_none rfl
theorem nl_of {c : Nat} {r : List Nat} {k : Nat} (h35 : c ≠ 35) (h1 : runL cls3 32 (c :: r) = k + 1) (h2 : (c :: r)[k + 1]? = some 59) : nameLen (c :: r) = some (k + 2) := by
  rw [nameLen_cons, if_neg h35, if_pos ⟨by omega, by rw [h1]; exact h2⟩, h1]
theorem cls_all : [97, 109, 112, 108, 116, 103, 113, 117, 111].all cls3 = true ∧ cls3 59 = false := by decide +kernel
theorem cls_in {c : Nat} (h : c ∈ [97, 109, 112, 108, 116, 103, 113, 117, 111]) : cls3 c = true := List.all_eq_true.mp cls_all.1 c h
theorem runL_yes {f : Nat → Bool} {n c : Nat} {r : List Nat} (h : f c = true) : runL f (n + 1) (c :: r) = runL f n r + 1 := by rw [runL, if_pos h]
theorem runL_no {f : Nat → Bool} {n c : Nat} {r : List Nat} (h : f c = false) : runL f (n + 1) (c :: r) = 0 := by rw [runL, if_neg (by rw [h]; exact Bool.false_ne_true)]
theorem nl_amp (R : List Nat) : nameLen (97 :: 109 :: 112 :: 59 :: R) = some 4 :=
  nl_of (by decide) (by rw [runL_yes (n := 31) (cls_in (by decide)), runL_yes (n := 30) (cls_in (by decide)), runL_yes (n := 29) (cls_in (by decide)), runL_no (n := 28) cls_all.2]) rfl
theorem nl_lt (R : List Nat) : nameLen (108 :: 116 :: 59 :: R) = some 3 :=
  nl_of (by decide) (by rw [runL_yes (n := 31) (cls_in (by decide)), runL_yes (n := 30) (cls_in (by decide)), runL_no (n := 29) cls_all.2]) rfl
theorem nl_gt (R : List Nat) : nameLen (103 :: 116 :: 59 :: R) = some 3 :=
  nl_of (by decide) (by rw [runL_yes (n := 31) (cls_in (by decide)), runL_yes (n := 30) (cls_in (by decide)), runL_no (n := 29) cls_all.2]) rfl
theorem nl_quot (R : List Nat) : nameLen (113 :: 117 :: 111 :: 116 :: 59 :: R) = some 5 :=
  nl_of (by decide) (by rw [runL_yes (n := 31) (cls_in (by decide)), runL_yes (n := 30) (cls_in (by decide)), runL_yes (n := 29) (cls_in (by decide)), runL_yes (n := 28) (cls_in (by decide)), runL_no (n := 27) cls_all.2]) rfl
theorem escL_cons (c : Nat) (t : List Nat) : escL (c :: t) = escC c ++ escL t := rfl
theorem unesc_esc : ∀ t : List Nat, unescL (escL t) = t
  | [] => unescL_nil
  | c :: t => by
    have ih := unesc_esc t
    rw [escL_cons]
    unfold escC
    split
    · rename_i h; subst h
      show unescL (38 :: 97 :: 109 :: 112 :: 59 :: escL t) = _
      rw [unescL_hit (nl_amp _)]
      show replL [97, 109, 112, 59] ++ unescL (escL t) = _
      rw [ih]; rfl
    · split
      · rename_i h; subst h
        show unescL (38 :: 108 :: 116 :: 59 :: escL t) = _
        rw [unescL_hit (nl_lt _)]
        show replL [108, 116, 59] ++ unescL (escL t) = _
        rw [ih]; rfl
      · split
        · rename_i h; subst h
          show unescL (38 :: 103 :: 116 :: 59 :: escL t) = _
          rw [unescL_hit (nl_gt _)]
          show replL [103, 116, 59] ++ unescL (escL t) = _
          rw [ih]; rfl
        · split
          · rename_i h; subst h
            show unescL (38 :: 113 :: 117 :: 111 :: 116 :: 59 :: escL t) = _
            rw [unescL_hit (nl_quot _)]
            show replL [113, 117, 111, 116, 59] ++ unescL (escL t) = _
            rw [ih]; rfl
          · rename_i h1 _ _ _
            show unescL (c :: escL t) = _
            rw [unescL_ne h1, ih]
theorem hash_ne {c : Nat} {r : List Nat} (h : c ≠ 35) : HashOk (c :: r) := fun r' e => absurd (List.cons.inj e).1 h
theorem fine_app : ∀ (l R : List Nat), (∀ c ∈ l, c ≠ 38) → Fine R → Fine (l ++ R)
  | [], _, _, h => h
  | c :: l, R, h, hR => ⟨fine_app l R (fun x hx => h x (.tail _ hx)) hR, fun e => absurd e (h c (.head _))⟩
theorem fine_esc : ∀ t : List Nat, Fine (escL t)
  | [] => trivial
  | c :: t => by
    have ih := fine_esc t
    rw [escL_cons]
    unfold escC
    split
    · exact ⟨fine_app [97, 109, 112, 59] _ (by decide) ih, fun _ => hash_ne (by decide)⟩
    · split
      · exact ⟨fine_app [108, 116, 59] _ (by decide) ih, fun _ => hash_ne (by decide)⟩
      · split
        · exact ⟨fine_app [103, 116, 59] _ (by decide) ih, fun _ => hash_ne (by decide)⟩
        · split
          · exact ⟨fine_app [113, 117, 111, 116, 59] _ (by decide) ih, fun _ => hash_ne (by decide)⟩
          · rename_i h1 _ _ _
            exact ⟨ih, fun e => absurd e h1⟩
theorem escL_len : ∀ t : List Nat, (escL t).length ≤ 6 * t.length
  | [] => Nat.le_refl 0
  | c :: t => by
    have ih := escL_len t
    rw [escL_cons, List.length_append, List.length_cons]
    have : (escC c).length ≤ 6 := by
      unfold escC
      (repeat' split) <;> simp
    omega

def headOk : List Nat → Prop
  | [] => True
  | x :: _ => dig x = false ∧ isx x = false
/-- a text whose '#' are followed well -/
def Well (b : Bool) : List Nat → Prop
  | [] => True
  | c :: r => (c = 35 → (b = true ∧ (r.take 3 = [54, 53, 59] ∨ r.take 4 = [120, 51, 99, 59])) ∨ headOk r) ∧ Well (c == 38) r
theorem well_fine : ∀ (T : List Nat) (b : Bool), Well b T → Fine T
  | [], _, _ => trivial
  | c :: r, _, h => ⟨well_fine r _ h.2, fun e => by
      subst e
      intro r' er
      subst er
      rcases h.2.1 rfl with ⟨_, h3 | h4⟩ | h5
      · exact .inl h3
      · exact .inr (.inl h4)
      · refine .inr (.inr fun x r'' ex => ?_)
        subst ex
        exact h5⟩
def Good (T : List Nat) : Prop := headOk T ∧ ∀ b, Well b T
theorem good_nil : Good [] := ⟨trivial, fun _ => trivial⟩
theorem well_plain : ∀ (l : List Nat) (R : List Nat) (b : Bool), (∀ c ∈ l, c ≠ 35) → (∀ b, Well b R) → Well b (l ++ R)
  | [], _, b, _, hR => hR b
  | c :: l, R, _, h, hR => ⟨fun e => absurd e (h c (.head _)), well_plain l R _ (fun x hx => h x (.tail _ hx)) hR⟩
theorem good_plain {c : Nat} {l R : List Nat} (h : ∀ x ∈ c :: l, x ≠ 35) (hd : dig c = false) (hx : isx c = false) (hR : Good R) : Good (c :: l ++ R) :=
  ⟨⟨hd, hx⟩, fun b => well_plain (c :: l) R b h hR.2⟩
theorem good_hash {R : List Nat} (hR : Good R) : Good (35 :: R) := ⟨⟨rfl, rfl⟩, fun _ => ⟨fun _ => .inr hR.1, hR.2 _⟩⟩
theorem good_dec {R : List Nat} (hR : Good R) : Good (38 :: 35 :: 54 :: 53 :: 59 :: R) :=
  ⟨⟨rfl, rfl⟩, fun _ => ⟨(nomatch ·), fun _ => .inl ⟨rfl, .inl rfl⟩, (nomatch ·), (nomatch ·), (nomatch ·), hR.2 _⟩⟩
theorem good_hex {R : List Nat} (hR : Good R) : Good (38 :: 35 :: 120 :: 51 :: 99 :: 59 :: R) :=
  ⟨⟨rfl, rfl⟩, fun _ => ⟨(nomatch ·), fun _ => .inl ⟨rfl, .inr rfl⟩, (nomatch ·), (nomatch ·), (nomatch ·), (nomatch ·), hR.2 _⟩⟩
end Mine
end

section
set_option Elab.async false
set_option maxRecDepth 100000
namespace Mine
open PySem
def HD : List Nat := [38, 60, 62, 34, 169, 160, 65]
theorem replL_head (n : List Nat) : ∃ y l, replL n = y :: l ∧ y ∈ HD := by
  unfold replL
  (repeat' split) <;> exact ⟨_, _, rfl, by decide⟩
theorem unesc_head (R : List Nat) : unescL R = [] ∨ ∃ x l, unescL R = x :: l ∧ ((∃ r, R = x :: r ∧ l = unescL r) ∨ x ∈ HD) := by
  cases R with
  | nil => exact .inl unescL_nil
  | cons c r =>
    right
    by_cases h : c = 38
    · subst h
      cases hn : nameLen r with
      | none => exact ⟨38, _, unescL_miss hn, .inr (by decide)⟩
      | some k =>
        obtain ⟨y, l, e, hy⟩ := replL_head (r.take k)
        exact ⟨y, l ++ unescL (r.drop k), by rw [unescL_hit hn, e]; rfl, .inr hy⟩
    · exact ⟨c, _, unescL_ne h, .inl ⟨r, rfl, rfl⟩⟩
theorem HD_ok : ∀ x ∈ HD, x ≠ 35 ∧ dig x = false ∧ isx x = false := by decide
theorem hash_unesc {R : List Nat} (hR : ∀ r2, R = 35 :: r2 → headOk r2) : HashOk (unescL R) := by
  intro r' e
  rcases unesc_head R with h | ⟨x, l, h, h2⟩
  · rw [h] at e; cases e
  · rw [h] at e
    injection e with e1 e2
    subst e1 e2
    rcases h2 with ⟨r, hr, rfl⟩ | h2
    · refine .inr (.inr fun x r'' ex => ?_)
      have hk := hR r hr
      rcases unesc_head r with h3 | ⟨y, l, h3, h4⟩
      · rw [h3] at ex; cases ex
      · rw [h3] at ex
        injection ex with e1 e2
        subst e1
        rcases h4 with ⟨r3, hr3, _⟩ | h4
        · subst hr3; exact hk
        · exact (HD_ok _ h4).2
    · exact absurd rfl (HD_ok _ h2).1
theorem runL_take {f : Nat → Bool} : ∀ (n : Nat) (l : List Nat), ∀ c ∈ l.take (runL f n l), f c = true
  | 0, _, _, h => by simp [runL] at h
  | _ + 1, [], _, h => by simp at h
  | n + 1, d :: r, c, h => by
    cases hd : f d with
    | false => rw [runL_no hd] at h; simp at h
    | true =>
      rw [runL_yes hd, List.take_succ_cons] at h
      rcases List.mem_cons.mp h with rfl | h
      · exact hd
      · exact runL_take n r c h
theorem cls_38 : cls3 38 = false := by decide +kernel
theorem name_no38 {r : List Nat} {k : Nat} (h : nameLen r = some k) : ∀ c ∈ r.take k, c ≠ 38 := by
  cases r with
  | nil => cases h
  | cons c r =>
    rw [nameLen_cons] at h
    split at h
    · rename_i hc
      subst hc
      split at h
      · rename_i h3
        cases h
        show ∀ c ∈ 35 :: r.take 3, c ≠ 38
        rw [h3]; decide
      · split at h
        · rename_i h3
          cases h
          show ∀ c ∈ 35 :: r.take 4, c ≠ 38
          rw [h3]; decide
        · cases h
    · split at h
      · rename_i h3
        cases h
        intro x hx
        rw [List.take_add_one, h3.2] at hx
        rcases List.mem_append.mp hx with hx | hx
        · intro e
          subst e
          have := runL_take 32 (c :: r) 38 hx
          rw [cls_38] at this
          cases this
        · have := List.mem_singleton.mp hx
          subst this
          decide
      · cases h
theorem replL_cases (n : List Nat) : n = [97, 109, 112, 59] ∨ (∃ c, replL n = [c] ∧ c ≠ 38) ∨ (replL n = 38 :: n ∧ n ≠ [35, 54, 53, 59] ∧ n ≠ [35, 120, 51, 99, 59]) := by
  unfold replL
  split
  · exact .inl ‹_›
  · right
    (repeat' split)
    all_goals first
      | exact .inl ⟨_, rfl, by decide⟩
      | exact .inr ⟨rfl, by assumption, by assumption⟩
theorem well_drop : ∀ (k : Nat) (T : List Nat) (b : Bool), Well b T → ∃ b', Well b' (T.drop k)
  | 0, _, b, h => ⟨b, h⟩
  | _ + 1, [], b, _ => ⟨b, trivial⟩
  | k + 1, _ :: r, _, h => well_drop k r _ h.2
theorem fine_unesc : ∀ (n : Nat) (T : List Nat) (b : Bool), T.length ≤ n → Well b T → Fine (unescL T)
  | _, [], _, _, _ => by rw [unescL_nil]; trivial
  | 0, _ :: _, _, hl, _ => by simp at hl
  | n + 1, c :: r, b, hl, h => by
    have hl' : r.length ≤ n := by simpa using hl
    by_cases hc : c = 38
    · subst hc
      cases hn : nameLen r with
      | none =>
        rw [unescL_miss hn]
        refine ⟨fine_unesc n r _ hl' h.2, fun _ => hash_unesc fun r2 e => ?_⟩
        subst e
        rcases h.2.1 rfl with ⟨_, h3⟩ | h4
        · exfalso
          rw [nameLen_cons, if_pos rfl] at hn
          rcases h3 with h3 | h3
          · rw [if_pos h3] at hn; cases hn
          · split at hn
            · cases hn
            · first
                | (rw [if_pos h3] at hn; cases hn)
                | cases hn
        · exact h4
      | some k =>
        rw [unescL_hit hn]
        obtain ⟨b', hw⟩ := well_drop k r _ h.2
        have hU := fine_unesc n (r.drop k) b' (by rw [List.length_drop]; omega) hw
        rcases replL_cases (r.take k) with ha | ⟨d, hd, hd38⟩ | ⟨hd, h1, h2⟩
        · rw [ha]
          show Fine (38 :: unescL (r.drop k))
          refine ⟨hU, fun _ => hash_unesc fun r2 e => ?_⟩
          have er : r = 97 :: 109 :: 112 :: 59 :: (35 :: r2) := by
            have := List.take_append_drop k r
            rw [ha, e] at this
            exact this.symm
          rw [er] at h
          rcases h.2.2.2.2.2.1 rfl with ⟨hf, _⟩ | h4
          · cases hf
          · exact h4
        · rw [hd]
          exact ⟨hU, fun e => absurd e hd38⟩
        · rw [hd]
          refine ⟨fine_app _ _ (name_no38 hn) hU, fun _ => ?_⟩
          obtain ⟨x, l, ex, hx⟩ := nameLen_ok hn
          rw [ex] at h1 h2 ⊢
          refine hash_ne fun e => ?_
          rcases hx e with h3 | h3
          · exact h1 (ex ▸ h3)
          · exact h2 (ex ▸ h3)
    · rw [unescL_ne hc]
      exact ⟨fine_unesc n r _ hl' h.2, fun e => absurd e hc⟩

theorem kept38 : keptS.cps.toList.contains 38 = true := by decide +kernel
theorem row_kept {c : Nat} (h : keptS.cps.toList.contains c = true) : rowL c = [c] := by unfold rowL; rw [if_pos h]
theorem row_pct {c : Nat} (h : keptS.cps.toList.contains c = false) : rowL c = ((Str.utf8Of c).map (·.toNat)).flatMap pctL := by unfold rowL; rw [if_neg (by rw [h]; exact Bool.false_ne_true)]
theorem row_head {c : Nat} (h : keptS.cps.toList.contains c = false) : ∃ l, rowL c = 37 :: l := by
  rw [row_pct h]
  have := utf8_pos (c := c)
  cases hb : Str.utf8Of c with
  | nil => rw [hb] at this; simp at this
  | cons b bs => exact ⟨_, rfl⟩
theorem hx_in (n : Nat) : hx n ∈ 0 :: hexU := by
  unfold hx
  by_cases h : n < hexU.length
  · rw [List.getD_eq_getElem?_getD, List.getElem?_eq_getElem h]
    exact .tail _ (List.getElem_mem h)
  · rw [List.getD_eq_getElem?_getD, List.getElem?_eq_none (by omega)]
    exact .head _
theorem hx_lt {n : Nat} (h : n < 16) : hx n ∈ hexU := by
  unfold hx
  have h : n < hexU.length := h
  rw [List.getD_eq_getElem?_getD, List.getElem?_eq_getElem h]
  exact List.getElem_mem h
theorem pct_chars {b : UInt8} : ∀ x ∈ pctL b.toNat, x ∈ 37 :: hexU := by
  intro x hx'
  have := b.toNat_lt
  rcases List.mem_cons.mp hx' with rfl | hx'
  · exact .head _
  · rcases List.mem_cons.mp hx' with rfl | hx'
    · exact .tail _ (hx_lt (by omega))
    · rw [List.mem_singleton.mp hx']
      exact .tail _ (hx_lt (by omega))
theorem row_chars (c : Nat) : ∀ x ∈ rowL c, (x = c ∧ keptS.cps.toList.contains c = true) ∨ x ∈ 37 :: hexU := by
  intro x hx'
  cases h : keptS.cps.toList.contains c with
  | true => rw [row_kept h] at hx'; exact .inl ⟨List.mem_singleton.mp hx', rfl⟩
  | false =>
    rw [row_pct h] at hx'
    obtain ⟨n, hn, hx''⟩ := List.mem_flatMap.mp hx'
    obtain ⟨b, _, rfl⟩ := List.mem_map.mp hn
    exact .inr (pct_chars x hx'')
theorem pct_kept : ∀ x ∈ 37 :: hexU, keptS.cps.toList.contains x = true ∧ x ≠ 38 ∧ x ≠ 35 ∧ x < 128 := by decide +kernel
theorem quote_cons (c : Nat) (r : List Nat) : quoteL (c :: r) = rowL c ++ quoteL r := rfl
theorem hash_quote {r : List Nat} (h : HashOk r) : HashOk (quoteL r) := by
  intro r' e
  cases r with
  | nil => cases e
  | cons d r2 =>
    rw [quote_cons] at e
    cases hd : keptS.cps.toList.contains d with
    | false => obtain ⟨l, hl⟩ := row_head hd; rw [hl] at e; cases e
    | true =>
      rw [row_kept hd] at e
      injection e with e1 e2
      subst e1
      have e2 : quoteL r2 = r' := e2
      subst e2
      rcases h r2 rfl with h3 | h4 | h5
      · left
        have e3 := List.take_append_drop 3 r2
        rw [h3] at e3
        rw [← e3]
        show (quoteL (54 :: 53 :: 59 :: r2.drop 3)).take 3 = _
        rw [quote_cons, quote_cons, quote_cons, row_kept (by decide +kernel), row_kept (by decide +kernel), row_kept (by decide +kernel)]
        rfl
      · right; left
        have e3 := List.take_append_drop 4 r2
        rw [h4] at e3
        rw [← e3]
        show (quoteL (120 :: 51 :: 99 :: 59 :: r2.drop 4)).take 4 = _
        rw [quote_cons, quote_cons, quote_cons, quote_cons, row_kept (by decide +kernel), row_kept (by decide +kernel), row_kept (by decide +kernel), row_kept (by decide +kernel)]
        rfl
      · right; right
        intro x r'' ex
        cases r2 with
        | nil => cases ex
        | cons y r3 =>
          rw [quote_cons] at ex
          cases hy : keptS.cps.toList.contains y with
          | false =>
            obtain ⟨l, hl⟩ := row_head hy
            rw [hl] at ex
            injection ex with e1 _
            subst e1
            exact ⟨rfl, rfl⟩
          | true =>
            rw [row_kept hy] at ex
            injection ex with e1 _
            subst e1
            exact h5 _ _ rfl
theorem fine_quote : ∀ u : List Nat, Fine u → Fine (quoteL u)
  | [], _ => trivial
  | c :: r, h => by
    have ih := fine_quote r h.1
    rw [quote_cons]
    by_cases hc : c = 38
    · subst hc
      rw [row_kept kept38]
      exact ⟨ih, fun _ => hash_quote (h.2 rfl)⟩
    · refine fine_app _ _ (fun x hx' => ?_) ih
      rcases row_chars c x hx' with ⟨rfl, _⟩ | h2
      · exact hc
      · exact (pct_kept x h2).2.1
theorem quote_chars (u : List Nat) : ∀ x ∈ quoteL u, keptS.cps.toList.contains x = true := by
  intro x hx'
  obtain ⟨c, _, hx''⟩ := List.mem_flatMap.mp hx'
  rcases row_chars c x hx'' with ⟨rfl, h⟩ | h2
  · exact h
  · exact (pct_kept x h2).1
theorem quote_id : ∀ u : List Nat, (∀ x ∈ u, keptS.cps.toList.contains x = true) → quoteL u = u
  | [], _ => rfl
  | c :: r, h => by
    rw [quote_cons, row_kept (h c (.head _)), quote_id r fun x hx' => h x (.tail _ hx')]
    rfl
theorem quote_len : ∀ u : List Nat, (quoteL u).length ≤ 12 * u.length
  | [] => Nat.le_refl 0
  | c :: r => by
    have := quote_len r
    have := rowL_len c
    rw [quote_cons, List.length_append, List.length_cons]; omega
theorem hv_hx : ∀ n < 16, hv (hx n) = n ∧ hx n ∈ hexL := by decide
theorem unqB_pct (R : List Nat) : ∀ bs : List UInt8, unqB ((bs.map (·.toNat)).flatMap pctL ++ R) = bs ++ unqB R
  | [] => rfl
  | b :: bs => by
    have hb := b.toNat_lt
    have h1 := hv_hx (b.toNat / 16) (by omega)
    have h2 := hv_hx (b.toNat % 16) (by omega)
    show unqB (37 :: hx (b.toNat / 16) :: hx (b.toNat % 16) :: ((bs.map (·.toNat)).flatMap pctL ++ R)) = _
    rw [unqB_hex h1.2 h2.2, h1.1, h2.1, unqB_pct R bs]
    have e : b.toNat / 16 * 16 + b.toNat % 16 = b.toNat := by omega
    rw [e]
    show UInt8.ofNat b.toNat :: _ = _
    rw [UInt8.ofNat_toNat]
    rfl
theorem unq_quote : ∀ u : List Nat, 37 ∉ u → unqB (quoteL u) = bytesL u
  | [], _ => by rw [show quoteL [] = [] from rfl, unqB]; rfl
  | c :: r, h => by
    have ih := unq_quote r fun hm => h (.tail _ hm)
    rw [quote_cons, bytesL_cons]
    cases hc : keptS.cps.toList.contains c with
    | true =>
      rw [row_kept hc]
      show unqB (c :: quoteL r) = _
      rw [unqB_else (fun ht => h (ht.1 ▸ .head _)), ih]
    | false => rw [row_pct hc, unqB_pct, ih]
end Mine
end

section
set_option Elab.async false
set_option maxRecDepth 100000
namespace Mine
open PySem
def PIECES : List Str := [Str.ofString "&", Str.ofString "amp;", Str.ofString "&lt;", Str.ofString "&#65;", Str.ofString "&#x3c;",
            Str.ofString " ", Str.ofString "%", Str.ofString "%41", Str.ofString "é", Str.ofString "<",
            Str.ofString "\"", Str.ofString "a", Str.ofString "/", Str.ofString ":", Str.ofString "B", Str.ofString ";",
            Str.ofString "#", Str.ofString "€", Str.ofString "&quot;", Str.ofString "&copy;", Str.ofString "nbsp;"]
def pieceOf (k : Int) : Str := PIECES.getD (k.fmod 21).toNat Str.empty
def PL : List (List Nat) := [[38], [97, 109, 112, 59], [38, 108, 116, 59], [38, 35, 54, 53, 59], [38, 35, 120, 51, 99, 59], [32], [37], [37, 52, 49], [233], [60], [34], [97], [47], [58], [66], [59], [35], [8364], [38, 113, 117, 111, 116, 59], [38, 99, 111, 112, 121, 59], [110, 98, 115, 112, 59]]
theorem PL_eq : PIECES.map (·.cps.toList) = PL := by decide +kernel
theorem piece_in (k : Int) : (pieceOf k).cps.toList ∈ PL := by
  have h : 0 ≤ k.fmod 21 ∧ k.fmod 21 < 21 := ⟨Int.fmod_nonneg_of_pos k (by decide), Int.fmod_lt_of_pos k (by decide)⟩
  have hl : (k.fmod 21).toNat < PIECES.length := by
    show _ < 21
    omega
  rw [← PL_eq]
  unfold pieceOf
  rw [List.getD_eq_getElem?_getD, List.getElem?_eq_getElem hl]
  exact List.mem_map_of_mem (List.getElem_mem hl)
theorem good_piece : ∀ p ∈ PL, ∀ R, Good R → Good (p ++ R) := by
  intro p hp R hR
  simp only [PL, List.mem_cons, List.not_mem_nil, or_false] at hp
  rcases hp with rfl | rfl | rfl | rfl | rfl | rfl | rfl | rfl | rfl | rfl | rfl | rfl | rfl | rfl | rfl | rfl | rfl | rfl | rfl | rfl | rfl
  all_goals first
    | exact good_plain (by decide) (by decide) (by decide) hR
    | exact good_dec hR
    | exact good_hex hR
    | exact good_hash hR
theorem PL_ok : ∀ p ∈ PL, p.length ≤ 6 ∧ ∀ c ∈ p, c < 2048 ∨ (4096 ≤ c ∧ c < 53248) := by decide +kernel
def textL (ns : List Int) : List Nat := ns.flatMap fun k => (pieceOf k).cps.toList
theorem good_text : ∀ ns : List Int, Good (textL ns)
  | [] => good_nil
  | k :: ns => good_piece _ (piece_in k) _ (good_text ns)
theorem text_ok (ns : List Int) : ∀ c ∈ textL ns, OkC c := by
  intro c hc
  obtain ⟨k, _, h⟩ := List.mem_flatMap.mp hc
  exact (PL_ok _ (piece_in k)).2 c h
theorem text_len : ∀ ns : List Int, (textL ns).length ≤ 6 * ns.length
  | [] => Nat.le_refl 0
  | k :: ns => by
    have h1 := text_len ns
    have h2 := (PL_ok _ (piece_in k)).1
    show ((pieceOf k).cps.toList ++ textL ns).length ≤ _
    rw [List.length_append, List.length_cons]; omega
theorem ok_sur {c : Nat} (h : OkC c) : Str.isSurrogate c = false := by
  unfold Str.isSurrogate
  rcases h with h | h <;> simp only [Bool.and_eq_false_iff, decide_eq_false_iff_not] <;> omega
theorem HD_okc : ∀ x ∈ HD, x < 2048 := by decide
theorem unesc_chars : ∀ (n : Nat) (T : List Nat), T.length ≤ n → ∀ x ∈ unescL T, x ∈ T ∨ x ∈ HD
  | _, [], _, x, hx => by rw [unescL_nil] at hx; cases hx
  | 0, _ :: _, hl, _, _ => by simp at hl
  | n + 1, c :: r, hl, x, hx => by
    have hl' : r.length ≤ n := by simpa using hl
    by_cases hc : c = 38
    · subst hc
      cases hn : nameLen r with
      | none =>
        rw [unescL_miss hn] at hx
        rcases List.mem_cons.mp hx with rfl | hx
        · exact .inl (.head _)
        · exact (unesc_chars n r hl' x hx).imp (.tail _) id
      | some k =>
        rw [unescL_hit hn] at hx
        rcases List.mem_append.mp hx with hx | hx
        · rcases replL_cases (r.take k) with ha | ⟨d, hd, hd38⟩ | ⟨hd, h1, h2⟩
          · rw [ha] at hx
            have hx : x ∈ [38] := hx
            rw [List.mem_singleton.mp hx]
            exact .inl (.head _)
          · obtain ⟨y, l, e, hy⟩ := replL_head (r.take k)
            rw [hd] at hx e
            injection e with e1 _
            subst e1
            rw [List.mem_singleton.mp hx]
            exact .inr hy
          · rw [hd] at hx
            rcases List.mem_cons.mp hx with rfl | hx
            · exact .inl (.head _)
            · exact .inl (.tail _ (List.mem_of_mem_take hx))
        · exact (unesc_chars n (r.drop k) (by rw [List.length_drop]; omega) x hx).imp (fun h => .tail _ (List.mem_of_mem_drop h)) id
    · rw [unescL_ne hc] at hx
      rcases List.mem_cons.mp hx with rfl | hx
      · exact .inl (.head _)
      · exact (unesc_chars n r hl' x hx).imp (.tail _) id
theorem unesc_ok {T : List Nat} (h : ∀ c ∈ T, OkC c) : ∀ c ∈ unescL T, OkC c := fun c hc =>
  (unesc_chars _ T (Nat.le_refl _) c hc).elim (h c) fun h2 => .inl (HD_okc c h2)
/-- a text of the law's pieces, and what follows -/
structure TextOk (T : List Nat) : Prop where
  len : T.length ≤ 120
  good : Good T
  ok : ∀ c ∈ T, OkC c
theorem text_is (ns : List Int) (h : ns.length ≤ 20) : TextOk (textL ns) := ⟨by have := text_len ns; omega, good_text ns, text_ok ns⟩
theorem TextOk.fine {T : List Nat} (h : TextOk T) : Fine T := well_fine T true (h.good.2 true)
theorem TextOk.fineU {T : List Nat} (h : TextOk T) : Fine (unescL T) := fine_unesc _ T true (Nat.le_refl _) (h.good.2 true)
theorem TextOk.fineQ {T : List Nat} (h : TextOk T) : Fine (urlL T) := fine_quote _ h.fineU
theorem TextOk.unq {T : List Nat} (h : TextOk T) (h37 : 37 ∉ unescL T) : Unq (urlL T) (unescL T) where
  la := by
    have h1 := quote_len (unescL T)
    have h2 := unescL_len T
    have h3 := h.len
    show (quoteL (unescL T)).length ≤ _
    omega
  sa := fun c hc => ok_sur (.inl (by
    have h1 := quote_chars _ c hc
    have h2 : ∀ x ∈ keptS.cps.toList, x < 2048 := by decide +kernel
    exact h2 c (List.contains_iff_mem.mp h1)))
  sb := unesc_ok h.ok
  lb := by
    have h2 := unescL_len T
    have h3 := h.len
    omega
  e := unq_quote _ h37
theorem url_id {T : List Nat} (h : unescL (urlL T) = urlL T) : urlL (urlL T) = urlL T := by
  show quoteL (unescL (urlL T)) = _
  rw [h]
  exact quote_id _ (quote_chars _)
end Mine
end

section
open PySem PySem.W PyProof.Rows PySem.Calls PySem.Spec
set_option Elab.async false
set_option maxRecDepth 100000
namespace Mine
def upC (c : Nat) : Nat := if 97 ≤ c ∧ c ≤ 122 then c - 32 else c
def sg (n : Int) (c : Nat) : Nat := if (n.fdiv 3).fmod 2 = 1 then upC c else c
def spC (n : Int) (c : Nat) : Str := if 0 < n.fmod 4 then (Str.ofString "%" ++ Txt.mul (Str.ofString "25") (n.fmod 4 - 1)) ++ hex2 (sg n c) else ⟨#[sg n c]⟩
theorem fmod_bnd (n : Int) (k : Int) (hk : 0 < k) : 0 ≤ n.fmod k ∧ n.fmod k < k := ⟨Int.fmod_nonneg_of_pos n hk, Int.fmod_lt_of_pos n hk⟩
theorem up_all : ((List.range 128).all fun c => (Txt.upper ⟨#[c]⟩).cps.toList == [upC c]) = true := by decide +kernel
theorem up_char {c : Nat} (h : c < 128) : Txt.upper ⟨#[c]⟩ = ⟨#[upC c]⟩ := by
  have := List.all_eq_true.mp up_all c (List.mem_range.mpr h)
  apply Str.ext'
  apply Array.ext'
  exact eq_of_beq this
theorem up_lt {c : Nat} (h : c < 128) : upC c < 256 := by
  unfold upC
  split <;> omega
theorem mul_len (n : Int) : (Txt.mul (Str.ofString "25") (n.fmod 4 - 1)).length ≤ 4 := by
  have h := fmod_bnd n 4 (by decide)
  have h4 : n.fmod 4 = 0 ∨ n.fmod 4 = 1 ∨ n.fmod 4 = 2 ∨ n.fmod 4 = 3 := by omega
  rcases h4 with h | h | h | h <;> rw [h] <;> decide
theorem app_le {x y : Str} {a b n : Nat} (hx : x.length ≤ a) (hy : y.length ≤ b) (hn : a + b ≤ n) : (x ++ y).length ≤ n := by
  rw [Str.length_append]; omega
theorem spC_len (n : Int) (c : Nat) : (spC n c).length ≤ 7 := by
  unfold spC
  split
  · exact app_le (a := 5) (b := 2) (app_le (a := 1) (b := 4) (by decide) (mul_len n) (by decide)) (Nat.le_refl 2) (by decide)
  · exact (by decide : 1 ≤ 7)
def laidS (n : Int) : Str := [Str.ofString " ", Str.ofString "%20", Str.ofString ""].getD (n.fmod 3).toNat Str.empty
def spUpto (ns : List Int) (text : List Nat) : Nat → Str
  | 0 => laidS (numL ns 1)
  | k + 1 => spUpto ns text k ++ spC (numL ns (2 + k)) (text.getD k 0)
structure SpS where
  t : Tok
  y : Str
theorem laid_le (n : Int) : (laidS n).length ≤ 3 := by
  have h := fmod_bnd n 3 (by decide)
  have h4 : n.fmod 3 = 0 ∨ n.fmod 3 = 1 ∨ n.fmod 3 = 2 := by omega
  unfold laidS
  rcases h4 with h | h | h <;> rw [h] <;> decide
section
variable {prog : Program} {w : World} {A : Around} {E : Value → Shared → Prop} {s : Shared}
theorem upperT {y z : Str} {t : Tok} {Q : Value → Shared → Prop} (e : Txt.upper y = z) (hz : z.length ≤ 1000) (h : Q (.str z s.toks) { s with toks := s.toks + 1 }) : wpAny (model prog w) A (call (.builtin "str.upper") [.str y t]) Q E s := by
  subst e
  refine SC.upper (by unfold Builtin.Str.tooLong; rw [decide_eq_false]; rw [sizeLine_eq]; omega) h
theorem addT {y z : Str} {t u : Tok} {Q : Value → Shared → Prop} (hy : y.length ≤ 10000) (hz : z.length ≤ 1000) (h : ∀ t' k, Q (.str (y ++ z) t') { s with toks := k }) : wpAny (model prog w) A (binaryOp .Add (.str y t) (.str z u)) Q E s :=
  SB.add h (by rw [sizeLine_eq]; omega)
theorem iaddT {y z : Str} {t u : Tok} {Q : Value → Shared → Prop} (hy : y.length ≤ 10000) (hz : z.length ≤ 1000) (h : ∀ t' k, Q (.str (y ++ z) t') { s with toks := k }) : wpAny (model prog w) A (inplaceOp .Add (.str y t) (.str z u)) Q E s :=
  SB.iadd h (by rw [sizeLine_eq]; omega)
theorem item_lit {value slice : Expr} {h₀ : Heap} {L D : Addr} {news : List (Addr × Obj)} {l : List Value} {c : Nat} {k : Int} {u : Tok} {Q : Value → Shared → Prop} (N : News h₀ L s.heap news) (hm : (D, W.listOf l.toArray c) ∈ news) (ha : allStr l = true)
    (h0 : 0 ≤ k) (hk : k < l.length) (hfit : k < 2 ^ 63) (h : ∀ t', Q (.str ((strsOf l).getD k.toNat Str.empty) t') s)
    (hs : subscripted slice false (.ref D) (.int k u) = operate [.ref D, .int k u] (getItem (.ref D) (.int k u)) := by with_unfolding_all rfl) :
    wpAny (model prog w) A (subscriptTail value slice (.ref D) (.int k u)) Q E s := by
  have hi := strsAre_of ha
  have hlt : k.toNat < (strsOf l).length := by rw [← hi.len_eq]; omega
  have e : (strsOf l)[k.toNat]? = some ((strsOf l).getD k.toNat Str.empty) := by simp [List.getD, hlt]
  obtain ⟨t, ht⟩ := hi.at e
  exact item_listR ⟨_, (N _ hm).1, rfl, _, rfl⟩ h0 hfit (by simpa using ht) (h t) hs
end
theorem number_specI (w : World) (S : Addr) (ns : List Int) (vs : List Value) (k : Int) (t : Tok) : SpecH w 2 419 (fun h₀ _ => h₀.IsList S vs.toArray ∧ IntsAre vs ns ∧ ns.length ≤ 63 ∧ 0 ≤ k ∧ k ≤ 100) [.ref S, .int k t] (fun t => .int (numL ns k.toNat) t) := by
  have H := number_spec w S ns vs k.toNat t
  unfold SpecH at H ⊢
  intro p loose mean mg mb dp un gd cn cs ac ccd cl outer A₀ base h₀ L m news s Q E B F X N T hk hP hd hu hret
  obtain ⟨h1, h2, h3, h4, h5⟩ := hP
  have e : ((k.toNat : Nat) : Int) = k := Int.toNat_of_nonneg h4
  have H2 := H p loose mean mg mb dp un gd cn cs ac ccd cl outer A₀ base h₀ L m news s Q E B F X N T hk ⟨h1, h2, h3, by omega⟩ hd hu hret
  rw [e] at H2
  exact H2
theorem spc1 {n : Int} {c : Nat} (hm : 0 < n.fmod 4) (hp : (n.fdiv 3).fmod 2 = 1) : Str.ofString "%" ++ Txt.mul (Str.ofString "25") (n.fmod 4 - 1) ++ hex2 (upC c) = spC n c := by
  unfold spC sg
  rw [if_pos hm, if_pos hp]
theorem spc2 {n : Int} {c : Nat} (hm : ¬ 0 < n.fmod 4) (hp : (n.fdiv 3).fmod 2 = 1) : (⟨#[upC c]⟩ : Str) = spC n c := by
  unfold spC sg
  rw [if_neg hm, if_pos hp]
theorem spc3 {n : Int} {c : Nat} (hm : 0 < n.fmod 4) (hp : (n.fdiv 3).fmod 2 ≠ 1) : Str.ofString "%" ++ Txt.mul (Str.ofString "25") (n.fmod 4 - 1) ++ hex2 c = spC n c := by
  unfold spC sg
  rw [if_pos hm, if_neg hp]
theorem spc4 {n : Int} {c : Nat} (hm : ¬ 0 < n.fmod 4) (hp : (n.fdiv 3).fmod 2 ≠ 1) : (⟨#[c]⟩ : Str) = spC n c := by
  unfold spC sg
  rw [if_neg hm, if_neg hp]
theorem kst_same {z : Str} {v0 : Value} {u0 m0 : Str → Option Value} (h2 : z ≠ Str.ofString "laid") (h3 : [Str.ofString "number", Str.ofString "sign", Str.ofString "many"].contains z = false) :
    kstB (fun z => if [Str.ofString "number", Str.ofString "sign", Str.ofString "many"].contains z = true then u0 z else m0 z) [(Str.ofString "laid", v0)] z = m0 z := by
  show (if z = Str.ofString "laid" then _ else _) = _
  rw [if_neg h2]
  show (if [Str.ofString "number", Str.ofString "sign", Str.ofString "many"].contains z = true then u0 z else m0 z) = m0 z
  rw [h3]
  rfl
theorem sp_end {h₀ h' : Heap} {L : Addr} {led own : List (Addr × Obj)} {adr : List Addr} {m₀ m' : Str → Option Value} {P : List Int → SpS → Prop} {pre : List Int} {y : Str} {t : Tok} {s₁ : Shared} {tk : Nat}
    (F : Fr h₀ L h' m') (N : News h₀ L h' (led ++ own)) (ha : led.map (·.1) = adr) (hm : m' (Str.ofString "laid") = some (.str y t))
    (hr : ∀ z, z ≠ Str.ofString "k" → z ≠ Str.ofString "laid" → [Str.ofString "number", Str.ofString "sign", Str.ofString "many"].contains z = false → m' z = m₀ z) (hp : P pre ⟨t, y⟩) :
    InvEndN h₀ L (KstS (fun _ => led) (fun c => [(Str.ofString "laid", .str c.y c.t)]) (fun _ => True) (Str.ofString "k") [Str.ofString "number", Str.ofString "sign", Str.ofString "many"] m₀ P pre) own adr s₁ { s₁ with heap := h', toks := tk } :=
  kst_end (σ := SpS) ⟨t, y⟩ F N (fun p hp => List.mem_append_left own hp) (fun p hp => List.mem_append_right _ hp) ha trivial (fun p hp => by rw [List.mem_singleton.mp hp]; exact hm) (fun z h1 h2 h3 => hr z h1 (h2 _ (.head _)) h3) hp
local macro_rules | `(tactic| k_all) => `(tactic| (first | exact lt_ne0 (by assumption) | exact lt_ne1 (by assumption) | exact allLt_ne0 (by assumption) | exact allLt_ne1 (by assumption)))
local macro_rules | `(tactic| walk_at "exec For Name Call cons nil") => `(tactic| (k_here; k_dflt (refine For_invV _ (by rfl) (by rfl) ?_)))
local macro_rules | `(tactic| walk_at "pyIter ref") => `(tactic| (k_here; refine Held.go ?_))
local macro_rules | `(tactic| walk_at "subscriptTail") => `(tactic| (k_here; (with_reducible show wpAny _ _ (subscriptTail _ _ (Value.ref _) (Value.int (Int.fmod _ _) _)) _ _ _); k_dflt (refine' item_lit ?a ?b ?c ?d ?e ?f ?_; (case a => k_asm); (case b => exact .head _); (case c => exact rfl); (case d => exact (fmod_bnd _ _ (by decide)).1); (case e => exact (fmod_bnd _ _ (by decide)).2); (case f => exact Int.lt_trans (fmod_bnd _ _ (by decide)).2 (by decide)); intro t')))
local macro_rules | `(tactic| walk_at "subscriptTail Name Name str int") => `(tactic| (k_here; (with_reducible show wpAny _ _ (subscriptTail _ _ (Value.str _ _) (Value.int _ _)) _ _ _); refine' itemT ?a ?b ?c ?d ?_; (case d => assumption); (case a => exact fitsSsize_of (N := 9223372036854775808) (by omega) (by omega) (Int.le_refl _)); (case b => omega); (case c => omega)))
local macro_rules | `(tactic| walk_at "call builtin:str.upper") => `(tactic| (k_here; k_dflt (refine upperT (by assumption) (by exact (by decide : 1 ≤ 1000)) ?_)))
local macro_rules | `(tactic| walk_at "call builtin:ord") => `(tactic| (k_here; refine P.ord_of_char ?_))
local macro_rules | `(tactic| walk_at "binaryOp Add str str") => `(tactic| (k_here; k_dflt (refine' addT ?a ?b ?_; (case a => first | with_reducible assumption | decide | exact app_le (a := 1) (b := 4) (by decide) (mul_len _) (by decide)); (case b => first | with_reducible assumption | decide | exact Nat.le_trans (mul_len _) (by decide) | exact (by decide : 2 ≤ 1000))); intro t' k'))
local macro_rules | `(tactic| walk_at "inplaceOp Add str str") => `(tactic| (k_here; k_dflt (refine' iaddT ?a ?b ?_; (case a => first | with_reducible assumption | decide); (case b => first | with_reducible assumption | decide | exact (by decide : 1 ≤ 1000) | exact app_le (a := 5) (b := 2) (app_le (a := 1) (b := 4) (by decide) (mul_len _) (by decide)) (Nat.le_refl 2) (by decide))); intro t' k'))
local macro_rules | `(tactic| walk_at "InvEndN") => `(tactic| (k_here; refine Held.go ?_))
local macro_rules | `(tactic| walk_at "formatField int") => `(tactic| (k_here; refine field_02 (by rfl) (by assumption) ?_))
local macro_rules | `(tactic| walk_at "call ref") => `(tactic| (k_here; (with_reducible show wpAny _ _ (call (Value.ref 419) _) _ _ _); k_dflt (refine' call_ofH (number_specI _ _ _ _ _ _) ?k1 ?k2 ?k3 ?k4 ?k5 ?k6 ?k7 ?k8 ?k9 ?_; (case k1 => k_asm); (case k2 => k_asm); (case k3 => k_asm); (case k4 => k_asm); (case k5 => k_asm); (case k6 => first | exact rfl | assumption); (case k7 => refine ⟨by assumption, by assumption, by assumption, ?_, ?_⟩ <;> omega); (case k8 => ktr_room); (case k9 => ktr_units); intro t' h' tk' hl' F' N'; (try dsimp only at hl'))))
set_option maxHeartbeats 8000000 in
theorem spelled_spec (w : World) (S : Addr) (ns : List Int) (vs : List Value) (x : Str) (t : Tok) : SpecH w 5 426 (fun h₀ _ => h₀.IsList S vs.toArray ∧ IntsAre vs ns ∧ ns.length ≤ 63 ∧ x.length ≤ 60 ∧ ∀ c ∈ x.cps.toList, c < 128) [.str x t, .ref S] (fun t => .str (spUpto ns x.cps.toList x.length) t) := by
  unfold SpecH
  w_top off
  k_fill
  intro p loose mean mg mb dp un gd cn cs ac ccd cl outer A₀ base h₀ L m news s Q E B F X N T hk hP hd hu hret
  obtain ⟨hS, hI, hn, hx, h128⟩ := hP
  refine wpAny_call (codeAny_toks ?_)
  k_dflt (refine' code_def ?k1 ?k2 ?k3 ?k4 ?k5 ?kA ?kF ?kK ?k6 ?k7 ?k8 ?k9 ?kB ?_ ?c2 ?c3 ?c4 ?c5; (case kA => exact rfl); (case kF => exact rfl); (case kK => first | exact rfl | assumption); (case k1 => k_asm); (case k2 => k_asm); (case k3 => k_asm); (case k4 => k_asm); (case k5 => k_asm); (case k6 => k_is); (case k7 => k_is); (case k8 => first | ktr_room); (case k9 => first | exact BindsTo.of_eq rfl | exact binds_K (by k_in) rfl (by k_is) rfl rfl rfl); (case c5 => decide); (case kB => exact locs rfl); (case c2 => exact rfl); (case c3 => exact rfl); (case c4 => exact rfl); k_whole; intro g' L' h' FG' F' N' B' X' T'; (try dsimp only); (try k_lift B'); (try k_fold))
  have hS2 := lift_list hS (by assumption)
  k_steps
  rename_i hR9 F9 N9 hk9
  refine kst_range (fun _ : SpS => _) (fun c => [(Str.ofString "laid", .str c.y c.t)]) (fun _ => True) [Str.ofString "number", Str.ofString "sign", Str.ofString "many"] (fun pre c => c.y = spUpto ns x.cps.toList pre.length ∧ c.y.length ≤ 3 + 8 * pre.length) ⟨_, _⟩ (by exact rfl) hR9 (small_one (by omega) (by omega) (by omega) (by omega)) (rangeSize_nat _ _) F9 N9 trivial (fun p hp => by rw [List.mem_singleton.mp hp]; exact rfl) ⟨rfl, ?_⟩ (fun c pre k t9 u9 h9 tk9 own hk hlt hown _ hP F1 N1 => ?_) (fun c u9 h9 tk9 _ hP F1 N1 => ?_)
  · exact laid_le _
  · obtain ⟨hP1, hP2⟩ := hP
    have hk' : k = ((pre.length : Nat) : Int) := by omega
    subst hk'
    have hlt' : pre.length < x.length := by omega
    obtain ⟨ch, hch⟩ : ∃ ch, x.cps[pre.length]? = some ch := ⟨_, Array.getElem?_eq_getElem hlt'⟩
    have hit := item_at x pre.length ch hch
    have hcl : x.cps.toList[pre.length]? = some ch := by rw [Array.getElem?_toList]; exact hch
    have hch128 : ch < 128 := h128 ch (List.mem_of_getElem? hcl)
    have hch256 : ch < 256 := by omega
    have hup := up_char hch128
    have hup256 := up_lt hch128
    have hP3 : c.y.length ≤ 10000 := by omega
    have e2 : (2 + ((pre.length : Nat) : Int)).toNat = 2 + pre.length := by omega
    have hgo : ∀ z, z = spC (numL ns (2 + ((pre.length : Nat) : Int)).toNat) ch → (c.y ++ z) = spUpto ns x.cps.toList (pre ++ [((pre.length : Nat) : Int)]).length ∧ (c.y ++ z).length ≤ 3 + 8 * (pre ++ [((pre.length : Nat) : Int)]).length := by
      rintro _ rfl
      rw [List.length_append, List.length_singleton, e2]
      have e3 : x.cps.toList.getD pre.length 0 = ch := by rw [List.getD_eq_getElem?_getD, hcl]; rfl
      refine ⟨?_, ?_⟩
      · show _ = spUpto ns x.cps.toList pre.length ++ spC (numL ns (2 + pre.length)) (x.cps.toList.getD pre.length 0)
        rw [e3, hP1]
      · rw [Str.length_append]
        have := spC_len (numL ns (2 + pre.length)) ch
        omega
    k_steps
    all_goals refine sp_end (by k_asm) (by assumption) rfl (by exact rfl) (fun z h1 h2 h3 => ?_) (hgo _ ?_)
    all_goals first
      | with_reducible exact spc1 (by assumption) (by assumption)
      | with_reducible exact spc2 (by assumption) (by assumption)
      | with_reducible exact spc3 (by assumption) (by assumption)
      | with_reducible exact spc4 (by assumption) (by assumption)
      | skip
    all_goals
      have q2 : z ≠ Str.ofString "number" := by
        intro e
        subst e
        exact absurd h3 (by decide)
      have q3 : z ≠ Str.ofString "sign" := by
        intro e
        subst e
        exact absurd h3 (by decide)
      have q4 : z ≠ Str.ofString "many" := by
        intro e
        subst e
        exact absurd h3 (by decide)
      repeat (first | with_reducible refine (if_neg h2).trans ?_ | with_reducible refine (if_neg q2).trans ?_ | with_reducible refine (if_neg q3).trans ?_ | with_reducible refine (if_neg q4).trans ?_ | with_reducible refine (if_neg h1).trans ?_)
      exact kst_same h2 h3
  · obtain ⟨hP1, hP2⟩ := hP
    rw [rangeKs_length] at hP1
    have e : ((x.length : Int) - 0).toNat = x.length := by omega
    rw [e] at hP1
    k_steps
    rw [← hP1] at hret
    (refine Ret.end hret (by assumption) (by k_asm) (by (first | k_asm | (refine cb_drop (by k_asm) (fun p hp => ?_); repeat (first | exact hp | refine List.Mem.tail _ ?_)))) ?_; try exact ⟨_, rfl⟩)
end Mine
end

section
open PySem PySem.W PyProof.Rows PySem.Calls PySem.Spec
set_option Elab.async false
set_option maxRecDepth 100000
namespace Mine
theorem esc_L (w : World) (l : List Nat) (tk : Tok) : Spec1 w 2 137 (l.length ≤ 5000) [.str ⟨l.toArray⟩ tk] (fun t => .str ⟨(escL l).toArray⟩ t) := by
  have H := escape_spec w ⟨l.toArray⟩ tk
  unfold Spec1 SpecN at H ⊢
  intro p loose mean mg mb dp un gd cn cs ac ccd cl outer A₀ base h₀ L m news s Q E B F X N T hk hP hd hu hTk hret
  exact H p loose mean mg mb dp un gd cn cs ac ccd cl outer A₀ base h₀ L m news s Q E B F X N T hk (by rw [len_mk]; omega) hd hu hTk hret
structure UnIs (l r : List Nat) : Prop where
  len : l.length ≤ 5000
  fine : Fine l
  e : unescL l = r
theorem unesc_L (w : World) (l r : List Nat) (tk : Tok) (h : UnIs l r) : Spec1 w 5 163 True [.str ⟨l.toArray⟩ tk] (fun t => .str ⟨r.toArray⟩ t) := by
  have H := unescape_spec w ⟨l.toArray⟩ tk
  unfold Spec1 SpecN at H ⊢
  intro p loose mean mg mb dp un gd cn cs ac ccd cl outer A₀ base h₀ L m news s Q E B F X N T hk hP hd hu hTk hret
  refine H p loose mean mg mb dp un gd cn cs ac ccd cl outer A₀ base h₀ L m news s Q E B F X N T hk ⟨by rw [len_mk]; have := h.len; omega, h.fine⟩ hd hu hTk ?_
  rw [← h.e] at hret
  exact hret
structure SafeIs (l r : List Nat) : Prop where
  len : l.length ≤ 1000
  fine : Fine l
  e : escL (unescL l) = r
theorem safe_L (w : World) (l r : List Nat) (tk : Tok) (h : SafeIs l r) : Spec1 w 7 151 True [.str ⟨l.toArray⟩ tk] (fun t => .str ⟨r.toArray⟩ t) := by
  have H := safe_spec w ⟨l.toArray⟩ tk
  unfold Spec1 SpecN at H ⊢
  intro p loose mean mg mb dp un gd cn cs ac ccd cl outer A₀ base h₀ L m news s Q E B F X N T hk hP hd hu hTk hret
  refine H p loose mean mg mb dp un gd cn cs ac ccd cl outer A₀ base h₀ L m news s Q E B F X N T hk ⟨by rw [len_mk]; exact h.len, h.fine⟩ hd hu hTk ?_
  rw [← h.e] at hret
  exact hret
structure UrlIs (l r : List Nat) : Prop where
  len : l.length ≤ 5000
  fine : Fine l
  sur : ∀ c ∈ unescL l, Str.isSurrogate c = false
  e : urlL l = r
theorem url_L (w : World) (l r : List Nat) (tk : Tok) (h : UrlIs l r) : Spec1 w 7 144 True [.str ⟨l.toArray⟩ tk] (fun t => .str ⟨r.toArray⟩ t) := by
  have H := url_spec w ⟨l.toArray⟩ tk
  unfold Spec1 SpecN at H ⊢
  intro p loose mean mg mb dp un gd cn cs ac ccd cl outer A₀ base h₀ L m news s Q E B F X N T hk hP hd hu hTk hret
  refine H p loose mean mg mb dp un gd cn cs ac ccd cl outer A₀ base h₀ L m news s Q E B F X N T hk ⟨by rw [len_mk]; have := h.len; omega, h.fine, h.sur⟩ hd hu hTk ?_
  rw [← h.e] at hret
  exact hret
theorem unq_L (w : World) (l r : List Nat) (tk : Tok) (h : Unq l r) : SpecZ w 3 59 True [.str ⟨l.toArray⟩ tk] (fun t => .str ⟨r.toArray⟩ t) := by
  have H := unquote_spec w ⟨l.toArray⟩ tk r
  unfold SpecZ at H ⊢
  intro p loose mean mg mb dp un gd cn cs ac ccd cl outer A₀ base h₀ L m news s Q E B F X N T hk hP hd hu hret
  exact H p loose mean mg mb dp un gd cn cs ac ccd cl outer A₀ base h₀ L m news s Q E B F X N T hk h hd hu hret
theorem ne_self (l : List Nat) : ((⟨l.toArray⟩ : Str) != ⟨l.toArray⟩) = false := by simp
theorem eq_self (l : List Nat) : ((⟨l.toArray⟩ : Str) == ⟨l.toArray⟩) = true := by simp
/-- the same value from each turn -/
theorem rest_const {prog : Program} {w : World} {A : Around} {s : Shared} {h₀ : Heap} {L : Addr} {m : Str → Option Value} {env : Env} {elt : Expr} {x : Str} {scope : Scope} {cl : List (Str × Addr)} {P : Nat → Value → Prop} {Fin : List Value → List (Addr × Obj) → Prop} {news : List (Addr × Obj)} {n : Nat} {ks : List Nat} (sv : Nat → Tok → Value) (v₀ : Value) (hks : ks.length = n)
    (hP : ∀ i v, i < n → P i v → ∃ k t, ks[i]? = some k ∧ v = sv k t)
    (turn : ∀ k t I oI C oC D m₂ ys h tk (E' : Value → Shared → Prop), k ∈ ks → LCg.NsObj oC m₂ → m₂ x = some (sv k t) → Fr h₀ L h m → News h₀ L h ((I, oI) :: (C, oC) :: (D, LCg.lst ys) :: news) → LCg.Off3 I C D news → ((@Ne Nat I C) ∧ (@Ne Nat I D) ∧ (@Ne Nat C D)) →
      wpAny (model prog w) A (eval elt (compEnvC scope cl C env)) (LCg.CompEnd h₀ L m { s with heap := h, toks := tk } I oI C oC D (LCg.lst ys) (fun _ => True) (fun y news' => news' = news ∧ y = v₀)) E' { s with heap := h, toks := tk })
    (fin : Fin (List.replicate n v₀) news) : LCg.CompRest prog w A h₀ L m env elt x scope cl s (fun _ => True) P Fin n 0 [] news := by
  have key : ∀ (j i : Nat), i + j = n → LCg.CompRest prog w A h₀ L m env elt x scope cl s (fun _ => True) P Fin j i (List.replicate i v₀) news := by
    intro j
    induction j with
    | zero =>
      intro i hi
      have e : i = n := by omega
      subst e
      exact LCg.CompRest.zero fin
    | succ j ih =>
      intro i hi
      refine LCg.CompRest.succ ?_
      intro v I oI C oC D m₂ h tk E' hv hC hx F N off ne
      obtain ⟨k, t, hk, hv'⟩ := hP i v (by omega) hv
      rw [hv'] at hx
      refine wpAny_mono (turn k t I oI C oC D m₂ _ h tk E' (List.mem_of_getElem? hk) hC hx F N off ne) (fun y s₂ hq => ?_) fun _ _ e => e
      obtain ⟨h', tk', nw, e, F', N', off', hS, hn, hy'⟩ := hq
      rw [hn] at N' off'
      refine ⟨h', tk', news, e, F', N', off', hS, ?_⟩
      rw [hy']
      show LCg.CompRest prog w A h₀ L m env elt x scope cl s (fun _ => True) P Fin j (i + 1) (List.replicate i v₀ ++ [v₀]) news
      rw [← List.replicate_succ']
      exact ih (i + 1) (by omega)
  exact key n 0 (by omega)
theorem bools_const : ∀ (n : Nat) (b : Bool), LSm.BoolsAre (List.replicate n (.bool b)) (List.replicate n b)
  | 0, _ => .nil
  | n + 1, b => .cons b (bools_const n b)
theorem any_const (n : Nat) : (List.replicate n false).any id = false := by
  induction n with
  | zero => rfl
  | succ n ih => rw [List.replicate_succ, List.any_cons, ih]; rfl
section
variable {prog : Program} {w : World} {A : Around} {E : Value → Shared → Prop} {s : Shared} {h₀ : Heap} {L D : Addr} {m : Str → Option Value} {news : List (Addr × Obj)}
theorem any_falses {n : Nat} {Q : Value → Shared → Prop} (F : Fr h₀ L s.heap m) (N : News h₀ L s.heap ((D, LCg.lst (List.replicate n (.bool false))) :: news)) (hh : A.handled = none)
    (h : ∀ h' tk, Fr h₀ L h' m → News h₀ L h' ((D, LCg.lst (List.replicate n (.bool false))) :: news) → Q (.bool false) { s with heap := h', toks := tk }) : wpAny (model prog w) A (call (.builtin "any") [.ref D]) Q E s := by
  refine LSm.any_bools (vs := List.replicate n (.bool false)) F N hh ⟨_, (N _ (.head _)).1, rfl, _, rfl⟩ (bools_const n false) fun h' tk F' N' => ?_
  rw [any_const]
  exact h h' tk F' N'
end
local macro_rules | `(tactic| walk_at "call builtin:any") => `(tactic| (k_here; refine wpAny_toks ?_; k_dflt (refine any_falses (by k_asm) (by k_asm) (by exact rfl) ?_); intro h' tk' F' N' hl'; (try dsimp only at hl')))
local macro_rules | `(tactic| walk_at "execs cons") => `(tactic| (k_here; (first | (with_reducible show wpAny _ _ _ _ _ (Shared.mk _ _ _ (HAdd.hAdd _ _) _)) | (with_reducible show wpAny _ _ _ _ _ (Shared.mk _ _ _ (Shared.toks _) _))); (with_reducible refine tokGen (by omega) ?_); intro tk hTk))
local macro_rules | `(tactic| walk_at "execs nil") => `(tactic| (k_here; (first | (with_reducible show wpAny _ _ _ _ _ (Shared.mk _ _ _ (HAdd.hAdd _ _) _)) | (with_reducible show wpAny _ _ _ _ _ (Shared.mk _ _ _ (Shared.toks _) _))); (with_reducible refine tokGen (by omega) ?_); intro tk hTk))
local macro_rules | `(tactic| k_all) => `(tactic| (first | exact lt_ne0 (by assumption) | exact lt_ne1 (by assumption) | exact allLt_ne0 (by assumption) | exact allLt_ne1 (by assumption)))
local macro_rules | `(tactic| walk_at "call ref") => `(tactic| (k_here; (with_reducible show wpAny _ _ (call (Value.ref 137) _) _ _ _); k_dflt (refine' call_of (esc_L _ _ _) ?k1 ?k2 ?k3 ?k4 ?k5 ?k6 ?k7 ?k8 ?k9 ?k10 ?_; (case k1 => k_asm); (case k2 => k_asm); (case k3 => k_asm); (case k4 => k_asm); (case k5 => k_asm); (case k6 => first | exact rfl | assumption); (case k7 => assumption); (case k8 => ktr_room); (case k9 => ktr_units); (case k10 => (dsimp only; omega)); intro t' h' tk' hl' F' N'; (try dsimp only at hl'))))
local macro_rules | `(tactic| walk_at "call ref") => `(tactic| (k_here; (with_reducible show wpAny _ _ (call (Value.ref 163) _) _ _ _); k_dflt (refine' call_of (unesc_L _ _ _ _ (by assumption)) ?k1 ?k2 ?k3 ?k4 ?k5 ?k6 ?k7 ?k8 ?k9 ?k10 ?_; (case k1 => k_asm); (case k2 => k_asm); (case k3 => k_asm); (case k4 => k_asm); (case k5 => k_asm); (case k6 => first | exact rfl | assumption); (case k7 => trivial); (case k8 => ktr_room); (case k9 => ktr_units); (case k10 => (dsimp only; omega)); intro t' h' tk' hl' F' N'; (try dsimp only at hl'))))
local macro_rules | `(tactic| walk_at "call ref") => `(tactic| (k_here; (with_reducible show wpAny _ _ (call (Value.ref 151) _) _ _ _); k_dflt (refine' call_of (safe_L _ _ _ _ (by assumption)) ?k1 ?k2 ?k3 ?k4 ?k5 ?k6 ?k7 ?k8 ?k9 ?k10 ?_; (case k1 => k_asm); (case k2 => k_asm); (case k3 => k_asm); (case k4 => k_asm); (case k5 => k_asm); (case k6 => first | exact rfl | assumption); (case k7 => trivial); (case k8 => ktr_room); (case k9 => ktr_units); (case k10 => (dsimp only; omega)); intro t' h' tk' hl' F' N'; (try dsimp only at hl'))))
local macro_rules | `(tactic| walk_at "call ref") => `(tactic| (k_here; (with_reducible show wpAny _ _ (call (Value.ref 144) _) _ _ _); k_dflt (refine' call_of (url_L _ _ _ _ (by assumption)) ?k1 ?k2 ?k3 ?k4 ?k5 ?k6 ?k7 ?k8 ?k9 ?k10 ?_; (case k1 => k_asm); (case k2 => k_asm); (case k3 => k_asm); (case k4 => k_asm); (case k5 => k_asm); (case k6 => first | exact rfl | assumption); (case k7 => trivial); (case k8 => ktr_room); (case k9 => ktr_units); (case k10 => (dsimp only; omega)); intro t' h' tk' hl' F' N'; (try dsimp only at hl'))))
theorem unqImp {p : Prop} {a b : List Nat} (h : p → Unq a b) (hp : p) : Unq a b := h hp
theorem no_way {V D W : List Nat} (h : V = D → W = D) (h1 : ((⟨V.toArray⟩ : Str) == ⟨D.toArray⟩) = true) (h2 : ((⟨W.toArray⟩ : Str) != ⟨D.toArray⟩) = true) : False := by
  have e : V = D := eq_lists (y := ⟨D.toArray⟩) h1
  rw [h e, ne_self] at h2
  cases h2
theorem bool_t {b : Bool} (h : b = false) : ∃ t : Tok, Value.bool (!b) = (fun _ : Tok => Value.bool true) t := ⟨0, by rw [h]; rfl⟩
theorem bool_e (l : List Nat) : ∃ t : Tok, Value.bool ((⟨l.toArray⟩ : Str) == ⟨l.toArray⟩) = (fun _ : Tok => Value.bool true) t := ⟨0, by rw [eq_self]⟩
local macro_rules | `(tactic| walk_at "call ref") => `(tactic| (k_here; (with_reducible show wpAny _ _ (call (Value.ref 59) _) _ _ _); k_dflt (refine' call_ofZ (unq_L _ _ _ _ (unqImp (by assumption) (by assumption))) ?k1 ?k2 ?k3 ?k4 ?k5 ?k6 ?k7 ?k8 ?k9 ?_; (case k1 => k_asm); (case k2 => k_asm); (case k3 => k_asm); (case k4 => k_asm); (case k5 => k_asm); (case k6 => first | exact rfl | assumption); (case k7 => trivial); (case k8 => ktr_room); (case k9 => ktr_units); intro t' h' tk' hl' F' N'; (try dsimp only at hl'))))
local macro_rules | `(tactic| walk_at "eval ListComp") => `(tactic| (k_here; refine Held.go ?_))
set_option maxHeartbeats 8000000 in
theorem text_spec (w : World) (l : List Nat) (tk : Tok) : Spec1 w 9 431 (TextOk l) [.str ⟨l.toArray⟩ tk] (fun t => .bool true) := by
  unfold Spec1 SpecN
  w_top off
  k_fill
  intro p loose mean mg mb dp un gd cn cs ac ccd cl outer A₀ base h₀ L m news s Q E B F X N T hk hP hd hu hTk hret
  have hlen := hP.len
  have hl5 : l.length ≤ 5000 := by omega
  have hel := escL_len l
  have hul := unescL_len l
  have heul := escL_len (unescL l)
  have hql := quote_len (unescL l)
  have f1 : UnIs (escL l) l := ⟨by omega, fine_esc l, unesc_esc l⟩
  have f2 : SafeIs l (escL (unescL l)) := ⟨by omega, hP.fine, rfl⟩
  have f3 : SafeIs (escL (unescL l)) (escL (unescL l)) := ⟨by omega, fine_esc _, by rw [unesc_esc]⟩
  obtain ⟨U, hU⟩ : ∃ U, unescL l = U := ⟨_, rfl⟩
  obtain ⟨D, hD⟩ : ∃ D, urlL l = D := ⟨_, rfl⟩
  obtain ⟨V, hV⟩ : ∃ V, unescL D = V := ⟨_, rfl⟩
  obtain ⟨W, hW⟩ : ∃ W, urlL D = W := ⟨_, rfl⟩
  have hDl : D.length ≤ 5000 := by
    rw [← hD]
    show (quoteL (unescL l)).length ≤ _
    omega
  have f4 : UrlIs l D := ⟨hl5, hP.fine, fun c hc => ok_sur (unesc_ok hP.ok c hc), hD⟩
  have f5 : UnIs D V := ⟨hDl, hD ▸ hP.fineQ, hV⟩
  have hDok : ∀ c ∈ D, OkC c := by
    intro c hc
    rw [← hD] at hc
    have h1 := quote_chars _ c hc
    have h2 : ∀ x ∈ keptS.cps.toList, x < 2048 := by decide +kernel
    exact .inl (h2 c (List.contains_iff_mem.mp h1))
  have f6 : UrlIs D W := ⟨hDl, hD ▸ hP.fineQ, fun c hc => ok_sur (unesc_ok hDok c hc), hW⟩
  have hDk : ∀ c ∈ D, (Builtin.Str.occurrences keptS ⟨#[c]⟩ 0 keptS.length 1).isEmpty = false := by
    intro c hc
    rw [← hD] at hc
    have hf := StrLaws.found_one keptS c
    rw [decide_eq_true (List.contains_iff_mem.mp (quote_chars _ c hc))] at hf
    cases hb : (Builtin.Str.occurrences keptS ⟨#[c]⟩ 0 keptS.length 1).isEmpty with
    | true => rw [hb] at hf; cases hf
    | false => rfl
  have hWD : V = D → W = D := fun e => by
    rw [← hW]
    show quoteL (unescL D) = D
    rw [hV, e, ← hD]
    exact quote_id _ (quote_chars _)
  have hUq : (Builtin.Str.occurrences (⟨U.toArray⟩ : Str) (Str.ofString "%") 0 (⟨U.toArray⟩ : Str).length 1).isEmpty = true → Unq D U := fun he => by
    have hf := StrLaws.found_one (⟨U.toArray⟩ : Str) 37
    rw [show (Builtin.Str.occurrences (⟨U.toArray⟩ : Str) ⟨#[37]⟩ 0 (⟨U.toArray⟩ : Str).length 1).isEmpty = true from he] at hf
    have h37 : ¬ 37 ∈ (⟨U.toArray⟩ : Str).cps.toList := of_decide_eq_false hf.symm
    have h37 : 37 ∉ unescL l := by rw [hU]; exact h37
    rw [← hD, ← hU]
    exact hP.unq h37
  have f7 : UnIs l U := ⟨hl5, hP.fine, hU⟩
  have n1 := ne_self l
  have n2 := ne_self (escL (unescL l))
  refine wpAny_call (codeAny_toks ?_)
  k_dflt (refine' code_def ?k1 ?k2 ?k3 ?k4 ?k5 ?kA ?kF ?kK ?k6 ?k7 ?k8 ?k9 ?kB ?_ ?c2 ?c3 ?c4 ?c5; (case kA => exact rfl); (case kF => exact rfl); (case kK => first | exact rfl | assumption); (case k1 => k_asm); (case k2 => k_asm); (case k3 => k_asm); (case k4 => k_asm); (case k5 => k_asm); (case k6 => k_is); (case k7 => k_is); (case k8 => first | ktr_room); (case k9 => first | exact BindsTo.of_eq rfl | exact binds_K (by k_in) rfl (by k_is) rfl rfl rfl); (case c5 => decide); (case kB => exact locs rfl); (case c2 => exact rfl); (case c3 => exact rfl); (case c4 => exact rfl); k_whole; intro g' L' h' FG' F' N' B' X' T'; (try dsimp only); (try k_lift B'); (try k_fold))
  k_steps
  show wpAny _ _ _ _ _ _
  refine wpAny_toks ?_
  k_dflt (refine ListComp_W (by k_asm) (by with_unfolding_all rfl) (by decide) (by rfl) (by decide) (by rfl) ?_)
  k_steps
  refine csrc_of (n := (⟨D.toArray⟩ : Str).cps.size) (P := SignAt ⟨D.toArray⟩) (iterOf_str (by exact rfl) ⟨D.toArray⟩ _) (by rw [sizeLine_eq]; show D.toArray.size ≤ _; rw [List.size_toArray]; omega) (by k_asm) (by k_asm) fun g9 => ?_
  refine rest_const (ks := D) (fun c t => .str ⟨#[c]⟩ t) (.bool false) (by simp) (fun i v hi hv => ?_) (fun k' t' I' oI' C' oC' D' m' ys' h' tk' E' hk' hC' hx' F' N' off' ne' => ?_) ?_
  · obtain ⟨c, u, h1, h2⟩ := hv
    exact ⟨c, u, by simpa using h1, h2⟩
  · obtain ⟨ne1, ne2, ne3⟩ := ne'
    have hocc := hDk k' hk'
    k_steps
    refine LCg.CompEnd.intro (by k_asm) N' _ (fun p hp => hp) off' trivial ⟨rfl, ?_⟩
    rw [show (Builtin.Str.occurrences (Str.ofString "ABCDEFGHIJKLMNOPQRSTUVWXYZabcdefghijklmnopqrstuvwxyz0123456789_.-~:/?#@!$&()*+,;=%") ⟨#[k']⟩ 0 (Str.ofString "ABCDEFGHIJKLMNOPQRSTUVWXYZabcdefghijklmnopqrstuvwxyz0123456789_.-~:/?#@!$&()*+,;=%").length 1).isEmpty = false from hocc]
    rfl
  · intro D9 h9 tk9 F9 N9 o9 hl9
    dsimp only at hl9
    k_steps
    all_goals first
      | exact (no_way hWD (by assumption) (by assumption)).elim
      | (refine Ret.end hret (by assumption) (by k_asm) (by (first | k_asm | (refine cb_drop (by k_asm) (fun p hp => ?_); repeat (first | exact hp | refine List.Mem.tail _ ?_)))) ?_; first | exact bool_t (by assumption) | exact bool_e _ | exact ⟨0, rfl⟩)
      | skip
end Mine
end

section
open PySem PySem.W PyProof.Rows PySem.Calls PySem.Spec
set_option Elab.async false
set_option maxRecDepth 100000
namespace Mine
section
variable {prog : Program} {w : World} {A : Around} {E : Value → Shared → Prop} {s : Shared} {h₀ : Heap} {L : Addr} {m : Str → Option Value} {news : List (Addr × Obj)} {K : Frag} {x C D : Addr} {ox : Obj} {odx : Option Obj}
/-- a class of the ground stands at every later heap -/
theorem cls_stands {h : Heap} {cdD : ClassData} (X : K.In h) (e : clsIn K D = some cdD) : ∃ o, h.get? D = some o ∧ o.data = .cls cdD := by
  rcases at_ : K.lookup D with _ | ⟨c, d, data, sl⟩
  · rw [clsIn, at_] at e
    exact nomatch e
  · cases data <;> rw [clsIn, at_] at e <;> cases e
    exact ⟨_, X D _ at_, rfl⟩
/-- super(D, x) with both said -/
theorem super_K {cdD : ClassData} {Q : Value → Shared → Prop} (F : Fr h₀ L s.heap m) (X₀ : K.In h₀) (N : News h₀ L s.heap news) (I : InstAt s.heap x ox C odx) (hD : clsIn K D = some cdD) (hsub : mroIn K C (.ref D) = some true)
    (next : ∀ so h', Fr h₀ L h' m → News h₀ L h' ((so, ks_superObj D x C) :: news) → (∀ p ∈ news, p.1 < so) → Q (.ref so) { s with heap := h' }) :
    wpAny (model prog w) A (call (.type "super") [.ref D, .ref x]) Q E s := by
  have noCls : ∀ c, ox.data ≠ .cls c := fun c e => by
    have no := I.no
    rw [notCls, e] at no
    exact nomatch no
  rcases s with ⟨h, g, d, t, os⟩
  have X := X₀.keeps F.keep
  rcases cls_stands X hD with ⟨oD, atD, dataD⟩
  exact ks_wpAny_call_super atD dataD I.at_ I.cls noCls (looks_mroIn X hsub) fun h' e k =>
    have step := ks_newsPush (s := ⟨h, g, d, t, os⟩) F N rfl e k
    next _ h' step.1 step.2.1 step.2.2
end
end Mine
end

section
open PySem PySem.W PyProof.Rows PySem.Calls PySem.Spec
set_option Elab.async false
set_option maxRecDepth 100000
namespace Mine
local macro_rules | `(tactic| k_all) => `(tactic| (first | exact lt_ne0 (by assumption) | exact lt_ne1 (by assumption) | exact allLt_ne0 (by assumption) | exact allLt_ne1 (by assumption)))
local macro_rules | `(tactic| walk_at "call ref") => `(tactic| (k_here; k_dflt (refine' call_meth ?k1 ?k2 ?_; (case k1 => k_asm); (case k2 => k_mem); k_whole; (refine' code_def ?k1 ?k2 ?k3 ?k4 ?k5 ?kA ?kF ?kK ?k6 ?k7 ?k8 ?k9 ?kB ?_ ?c2 ?c3 ?c4 ?c5; (case kA => exact rfl); (case kF => exact rfl); (case kK => first | exact rfl | assumption); (case k1 => k_asm); (case k2 => k_asm); (case k3 => k_asm); (case k4 => k_asm); (case k5 => k_asm); (case k6 => k_is); (case k7 => k_is); (case k8 => first | ktr_room); (case k9 => first | exact BindsTo.of_eq rfl | exact binds_K (by k_in) rfl (by k_is) rfl rfl rfl); (case c5 => decide); (case kB => exact locs rfl); (case c2 => exact rfl); (case c3 => exact rfl); (case c4 => exact rfl); k_whole; intro g' L' h' FG' F' N' B' X' T'; (try dsimp only); (try k_lift B'); (try k_fold)))))
local macro_rules | `(tactic| walk_at "call type:super") => `(tactic| (k_here; k_dflt (refine' super_K ?k1 ?k2 ?k3 ?k4 ?k5 ?k6 ?_; (case k1 => k_asm); (case k2 => k_asm); (case k3 => k_asm); (case k4 => k_inst); (case k5 => k_is); (case k6 => k_is); intro so' h' F' N' l1; (try k_lt l1))))
local macro_rules | `(tactic| walk_at "eval Name") => `(tactic| (k_here; (with_reducible show wpAny _ _ (eval _ (envX _ _ _ _ _ _)) _ _ _); k_dflt (refine' nameX_B ?k0 ?k1 ?k2 ?k3 ?k4 ?k5 ?_; (case k0 => k_asm); (case k1 => k_asm); (case k2 => k_asm); (case k3 => k_is); (case k4 => boot_by_name); (case k5 => decide); k_whole)))
local macro_rules | `(tactic| walk_at "eval Name") => `(tactic| (k_here; (with_reducible show wpAny _ _ (eval _ (envX _ _ _ _ _ _)) _ _ _); k_dflt (refine' nameX_K ?k0 ?k1 ?k2 ?k3 ?_; (case k0 => k_asm); (case k1 => k_asm); (case k2 => k_asm); (case k3 => k_is); k_whole)))
local macro_rules | `(tactic| walk_at "eval Name") => `(tactic| (k_here; (with_reducible show wpAny _ _ (eval _ (envX _ _ _ _ _ _)) _ _ _); k_dflt (refine' nameX_L ?k1 ?k2 ?_; (case k1 => k_asm); (case k2 => exact rfl); k_whole)))
def rDict (w : World) (v : Value) (d1 : Addr) (t1 t2 t3 : Tok) : Obj :=
  dictOf [{ hash := PyData.keyHash w.params (Str.ofString "_BaseRenderer__methods"), key := Value.str (Str.ofString "_BaseRenderer__methods") t1, val := Value.ref d1 },
    { hash := PyData.keyHash w.params (Str.ofString "_allow_harmful_protocols"), key := Value.str (Str.ofString "_allow_harmful_protocols") t2, val := v },
    { hash := PyData.keyHash w.params (Str.ofString "_escape"), key := Value.str (Str.ofString "_escape") t3, val := Value.bool true }] 3
def SpecNew (w : World) (kw : List (Str × Value)) (v : Value) : Prop :=
  ∀ (p : Program) (loose : List Str) (mean : ExcName → Option Value) (mg mb : Str → Option Value)
    (dp un : Nat) (gd : Option (List Code)) (cn : Str) (cs : Scope) (a : Addr) (ccd : Value) (cl : List (Str × Addr)) (outer : List Env) (A₀ : Around) (base h₀ : Heap) (L : Addr) (m : Str → Option Value) (news : List (Addr × Obj)) (s : Shared)
    (Q E : Value → Shared → Prop),
    Below A₀ base outer h₀ → Fr h₀ L s.heap m → (hd.heap_39 w.params).In h₀ → News h₀ L s.heap news → Top p loose mean mg mb h₀ → cs.kind = .function → dp + 6 < recursionLimit → un + 60 < cLine →
    (∀ x d d1 t1 t2 t3 h' tk', Fr h₀ L h' m → News h₀ L h' ((x, instObj 393 d) :: (d, rDict w v d1 t1 t2 t3) :: news) → d < x → (∀ p ∈ news, p.1 < d) → Q (.ref x) { s with heap := h', toks := tk' }) →
    wpAny (model Challenge.rw_ci0013_01.row.prog w) (ktrTop dp un gd cn cs L a ccd cl outer) (call (.ref 393) [] kw) Q E s
theorem call_new {w : World} {kw : List (Str × Value)} {v : Value} (H : SpecNew w kw v)
    {p : Program} {loose : List Str} {mean : ExcName → Option Value} {mg mb : Str → Option Value}
    {dp un : Nat} {gd : Option (List Code)} {cn : Str} {cs : Scope} {a : Addr} {ccd : Value} {cl : List (Str × Addr)} {outer : List Env} {A₀ : Around} {base h₀ : Heap} {L : Addr} {m : Str → Option Value} {news : List (Addr × Obj)} {s : Shared}
    {Q E : Value → Shared → Prop} (B : Below A₀ base outer h₀) (F : Fr h₀ L s.heap m) (X : (hd.heap_39 w.params).In h₀) (N : News h₀ L s.heap news) (T : Top p loose mean mg mb h₀) (hk : cs.kind = .function) (hd : dp + 6 < recursionLimit) (hu : un + 60 < cLine)
    (hret : ∀ x d d1 t1 t2 t3 h' tk', Fr h₀ L h' m → News h₀ L h' ((x, instObj 393 d) :: (d, rDict w v d1 t1 t2 t3) :: news) → d < x → (∀ p ∈ news, p.1 < d) → Q (.ref x) { s with heap := h', toks := tk' }) :
    wpAny (model Challenge.rw_ci0013_01.row.prog w) (ktrTop dp un gd cn cs L a ccd cl outer) (call (.ref 393) [] kw) Q E s :=
  H p loose mean mg mb dp un gd cn cs a ccd cl outer A₀ base h₀ L m news s Q E B F X N T hk hd hu hret
set_option maxHeartbeats 8000000 in
theorem new_none (w : World) : SpecNew w [] .none := by
  unfold SpecNew
  w_top off
  k_fill
  intro p loose mean mg mb dp un gd cn cs ac ccd cl outer A₀ base h₀ L m news s Q E B F X N T hk hd hu hret
  k_dflt (refine' call_cls ?k1 ?k2 ?k3 ?k4 ?k5 ?k6 ?_)
  (case k1 => k_asm)
  (case k2 => k_asm)
  (case k3 => k_asm)
  (case k4 => k_is)
  (case k5 => k_is)
  (case k6 => k_is)
  intro x' d' h' F' N' l1 l2
  have l1c := l1
  have l2c := l2
  (try k_lt l1)
  (try k_lt2 l2)
  k_dflt (refine' ks_code_super ?k1 ?k2 ?k3 ?k4 ?k5 ?kA ?kF ?kK ?k6 ?k7 ?k8 ?k9 ?kB ?_ ?c1 ?c2 ?c3 ?c4)
  (case kA => exact rfl)
  (case kF => exact rfl)
  (case kK => first | exact rfl | assumption)
  (case k1 => k_asm)
  (case k2 => k_asm)
  (case k3 => k_asm)
  (case k4 => k_asm)
  (case k5 => k_asm)
  (case k6 => k_is)
  (case k7 => k_is)
  (case k8 => first | k_room | ktr_room)
  (case k9 => first | exact BindsTo.of_eq rfl | exact binds_K (by k_in) rfl (by k_is) rfl rfl rfl)
  (case kB => exact locs rfl)
  (case c1 => decide)
  (case c2 => exact rfl)
  (case c3 => exact rfl)
  (case c4 => exact rfl)
  intro g' L' h' FG' F' N' B' X' T' l1
  (try k_lt l1)
  (try dsimp only)
  (try k_lift B')
  refine wpAt_of_wpAny ?_
  k_steps
  refine hret _ _ _ _ _ _ _ _ (by k_asm) (cb_drop (by k_asm) (fun p hp => .tail _ (.tail _ (.tail _ hp)))) l2c l1c
set_option maxHeartbeats 8000000 in
theorem new_with (w : World) (v : Value) : SpecNew w [(Str.ofString "allow_harmful_protocols", v)] v := by
  unfold SpecNew
  w_top off
  k_fill
  intro p loose mean mg mb dp un gd cn cs ac ccd cl outer A₀ base h₀ L m news s Q E B F X N T hk hd hu hret
  k_dflt (refine' call_cls ?k1 ?k2 ?k3 ?k4 ?k5 ?k6 ?_)
  (case k1 => k_asm)
  (case k2 => k_asm)
  (case k3 => k_asm)
  (case k4 => k_is)
  (case k5 => k_is)
  (case k6 => k_is)
  intro x' d' h' F' N' l1 l2
  have l1c := l1
  have l2c := l2
  (try k_lt l1)
  (try k_lt2 l2)
  k_dflt (refine' ks_code_super ?k1 ?k2 ?k3 ?k4 ?k5 ?kA ?kF ?kK ?k6 ?k7 ?k8 ?k9 ?kB ?_ ?c1 ?c2 ?c3 ?c4)
  (case kA => exact rfl)
  (case kF => exact rfl)
  (case kK => first | exact rfl | assumption)
  (case k1 => k_asm)
  (case k2 => k_asm)
  (case k3 => k_asm)
  (case k4 => k_asm)
  (case k5 => k_asm)
  (case k6 => k_is)
  (case k7 => k_is)
  (case k8 => first | k_room | ktr_room)
  (case k9 => first | exact BindsTo.of_eq rfl | exact binds_K (by k_in) rfl (by k_is) rfl rfl rfl)
  (case kB => exact locs rfl)
  (case c1 => decide)
  (case c2 => exact rfl)
  (case c3 => exact rfl)
  (case c4 => exact rfl)
  intro g' L' h' FG' F' N' B' X' T' l1
  (try k_lt l1)
  (try dsimp only)
  (try k_lift B')
  refine wpAt_of_wpAny ?_
  k_steps
  refine hret _ _ _ _ _ _ _ _ (by k_asm) (cb_drop (by k_asm) (fun p hp => .tail _ (.tail _ (.tail _ hp)))) l2c l1c
end Mine
end

section
open PySem PySem.W PyProof.Rows PySem.Calls PySem.Spec
set_option Elab.async false
set_option maxRecDepth 100000
namespace Mine
structure Norm (y : Str) (u1 u2 u3 : List Nat) (z : Str) : Prop where
  c : Unq y.cps.toList u1 ∧ Unq u1 u2 ∧ Unq u2 u3 ∧ (u1 = y.cps.toList → u3 = u1) ∧ (u2 = u1 → u3 = u1)
  e : Txt.lstrip (Txt.lower ⟨u3.toArray⟩) = z
  l3 : u3.length ≤ 10000
  lz : z.length ≤ 10000
local macro_rules | `(tactic| k_all) => `(tactic| (first | exact lt_ne0 (by assumption) | exact lt_ne1 (by assumption) | exact allLt_ne0 (by assumption) | exact allLt_ne1 (by assumption)))
local macro_rules | `(tactic| walk_at "call ref") => `(tactic| (k_here; (with_reducible show wpAny _ _ (call (Value.ref 402) _) _ _ _); k_dflt (refine' call_ofZ (unqurl_spec _ _ _ _ _ _) ?k1 ?k2 ?k3 ?k4 ?k5 ?k6 ?k7 ?k8 ?k9 ?_; (case k1 => k_asm); (case k2 => k_asm); (case k3 => k_asm); (case k4 => k_asm); (case k5 => k_asm); (case k6 => first | exact rfl | assumption); (case k7 => assumption); (case k8 => ktr_room); (case k9 => ktr_units); intro t' h' tk' hl' F' N'; (try dsimp only at hl'))))
local macro_rules | `(tactic| walk_at "call ref") => `(tactic| (k_here; (with_reducible show wpAny _ _ (call (Value.ref 409) _) _ _ _); k_dflt (refine' call_ofZ (safeurl_spec _ _ _) ?k1 ?k2 ?k3 ?k4 ?k5 ?k6 ?k7 ?k8 ?k9 ?_; (case k1 => k_asm); (case k2 => k_asm); (case k3 => k_asm); (case k4 => k_asm); (case k5 => k_asm); (case k6 => first | exact rfl | assumption); (case k7 => assumption); (case k8 => ktr_room); (case k9 => ktr_units); intro t' h' tk' hl' F' N'; (try dsimp only at hl'))))
set_option maxHeartbeats 8000000 in
theorem san_free (w : World) (x d d1 : Addr) (t1 t2 t3 : Tok) (y : Str) (t : Tok) : SpecH w 8 240 (fun _ news => (x, instObj 393 d) ∈ news ∧ (d, rDict w (.bool true) d1 t1 t2 t3) ∈ news) [.ref x, .str y t] (fun t => .str y t) := by
  unfold SpecH rDict
  w_top off
  k_fill
  intro p loose mean mg mb dp un gd cn cs ac ccd cl outer A₀ base h₀ L m news s Q E B F X N T hk hP hd hu hret
  obtain ⟨hx, hdm⟩ := hP
  refine wpAny_call (codeAny_toks ?_)
  k_dflt (refine' code_def ?k1 ?k2 ?k3 ?k4 ?k5 ?kA ?kF ?kK ?k6 ?k7 ?k8 ?k9 ?kB ?_ ?c2 ?c3 ?c4 ?c5; (case kA => exact rfl); (case kF => exact rfl); (case kK => first | exact rfl | assumption); (case k1 => k_asm); (case k2 => k_asm); (case k3 => k_asm); (case k4 => k_asm); (case k5 => k_asm); (case k6 => k_is); (case k7 => k_is); (case k8 => first | ktr_room); (case k9 => first | exact BindsTo.of_eq rfl | exact binds_K (by k_in) rfl (by k_is) rfl rfl rfl); (case c5 => decide); (case kB => exact locs rfl); (case c2 => exact rfl); (case c3 => exact rfl); (case c4 => exact rfl); k_whole; intro g' L' h' FG' F' N' B' X' T'; (try dsimp only); (try k_lift B'); (try k_fold))
  k_steps
  (refine Ret.end hret (by assumption) (by k_asm) (by (first | k_asm | (refine cb_drop (by k_asm) (fun p hp => ?_); repeat (first | exact hp | refine List.Mem.tail _ ?_)))) ?_; try exact ⟨_, rfl⟩)
def HARM : Str := Str.ofString "#harmful-link"
local macro_rules | `(tactic| walk_at "call builtin:str.startswith") => `(tactic| (k_here; (with_reducible show wpAny _ _ (call (Value.builtin "str.startswith") [Value.str _ _, Value.ref _]) _ _ _); k_dflt (refine' call_startsN ?a ?b ?e ?_; (case a => k_asm); (case b => assumption); (case e => exact rfl); intro b' hb')))
set_option maxHeartbeats 8000000 in
theorem san_plain (w : World) (x d d1 : Addr) (t1 t2 t3 : Tok) (y z : Str) (t : Tok) (u1 u2 u3 : List Nat) (hn : Norm y u1 u2 u3 z) : SpecH w 8 240 (fun _ news => (x, instObj 393 d) ∈ news ∧ (d, rDict w .none d1 t1 t2 t3) ∈ news) [.ref x, .str y t] (fun t => .str (if safeL z then y else HARM) t) := by
  unfold SpecH rDict
  w_top off
  k_fill
  intro p loose mean mg mb dp un gd cn cs ac ccd cl outer A₀ base h₀ L m news s Q E B F X N T hk hP hd hu hret
  obtain ⟨hx, hdm⟩ := hP
  have hc := hn.c
  have hl3 : (⟨u3.toArray⟩ : Str).length ≤ 10000 := by rw [len_mk]; exact hn.l3
  have hz : (Txt.lstrip (Txt.lower ⟨u3.toArray⟩)).length ≤ 10000 := by rw [hn.e]; exact hn.lz
  refine wpAny_call (codeAny_toks ?_)
  k_dflt (refine' code_def ?k1 ?k2 ?k3 ?k4 ?k5 ?kA ?kF ?kK ?k6 ?k7 ?k8 ?k9 ?kB ?_ ?c2 ?c3 ?c4 ?c5; (case kA => exact rfl); (case kF => exact rfl); (case kK => first | exact rfl | assumption); (case k1 => k_asm); (case k2 => k_asm); (case k3 => k_asm); (case k4 => k_asm); (case k5 => k_asm); (case k6 => k_is); (case k7 => k_is); (case k8 => first | ktr_room); (case k9 => first | exact BindsTo.of_eq rfl | exact binds_K (by k_in) rfl (by k_is) rfl rfl rfl); (case c5 => decide); (case kB => exact locs rfl); (case c2 => exact rfl); (case c3 => exact rfl); (case c4 => exact rfl); k_whole; intro g' L' h' FG' F' N' B' X' T'; (try dsimp only); (try k_lift B'); (try k_fold))
  k_steps
  · have hs : safeL z = true := by rw [← hn.e]; assumption
    rw [if_pos hs] at hret
    (refine Ret.end hret (by assumption) (by k_asm) (by (first | k_asm | (refine cb_drop (by k_asm) (fun p hp => ?_); repeat (first | exact hp | refine List.Mem.tail _ ?_)))) ?_; try exact ⟨_, rfl⟩)
  · have hs : safeL z = false := by rw [← hn.e]; assumption
    rw [if_neg (by rw [hs]; exact Bool.false_ne_true)] at hret
    (refine Ret.end hret (by assumption) (by k_asm) (by (first | k_asm | (refine cb_drop (by k_asm) (fun p hp => ?_); repeat (first | exact hp | refine List.Mem.tail _ ?_)))) ?_; try exact ⟨_, rfl⟩)
theorem pre_t {b c : Bool} {x : Str} {l : List Str} (h : b = preL x l) (hb : b = c) : preL x l = c := h.symm.trans hb
abbrev tup2 (a1 a2 n9 : Tok) : Obj := { cls := .type "tuple", data := .seq #[.str (Str.ofString "javascript:") a1, .str (Str.ofString "file:") a2] n9 }
section
variable {prog : Program} {w : World} {A : Around} {E : Value → Shared → Prop} {s : Shared} {h₀ : Heap} {L T : Addr} {m : Str → Option Value} {news : List (Addr × Obj)} {a1 a2 n9 : Tok}
theorem truthy2 {Q : Bool → Shared → Prop} (N : News h₀ L s.heap news) (hm : (T, tup2 a1 a2 n9) ∈ news) (h : Q true { s with toks := s.toks + 1 + 1 }) : wpAny (model prog w) A (truthy (.ref T)) Q E s :=
  ktl_truthy (N _ hm).1 (show ¬ ((2 : Nat) : Int) ≥ 2 ^ 63 by decide) h
theorem tuple2 {Q : Value → Shared → Prop} (N : News h₀ L s.heap news) (hm : (T, tup2 a1 a2 n9) ∈ news) (h : Q (.ref T) s) : wpAny (model prog w) A (call (.type "tuple") [.ref T]) Q E s :=
  call_tuple_tup ⟨_, (N _ hm).1, rfl, _, rfl⟩ h
end
local macro_rules | `(tactic| walk_at "truthy ref") => `(tactic| (k_here; k_dflt (refine truthy2 (by k_asm) (by assumption) ?_)))
local macro_rules | `(tactic| walk_at "call type:tuple") => `(tactic| (k_here; k_dflt (refine tuple2 (by k_asm) (by assumption) ?_)))
set_option maxHeartbeats 8000000 in
theorem san_some (w : World) (x d d1 T9 : Addr) (t1 t2 t3 a1 a2 n9 : Tok) (y z : Str) (t : Tok) (u1 u2 u3 : List Nat) (hn : Norm y u1 u2 u3 z) : SpecH w 8 240 (fun _ news => (x, instObj 393 d) ∈ news ∧ (d, rDict w (.ref T9) d1 t1 t2 t3) ∈ news ∧ (T9, tup2 a1 a2 n9) ∈ news) [.ref x, .str y t] (fun t => .str (if preL z [Str.ofString "javascript:", Str.ofString "file:"] || safeL z then y else HARM) t) := by
  unfold SpecH rDict
  w_top off
  k_fill
  intro p loose mean mg mb dp un gd cn cs ac ccd cl outer A₀ base h₀ L m news s Q E B F X N T hk hP hd hu hret
  obtain ⟨hx, hdm, hT9⟩ := hP
  have hc := hn.c
  have hl3 : (⟨u3.toArray⟩ : Str).length ≤ 10000 := by rw [len_mk]; exact hn.l3
  have hz : (Txt.lstrip (Txt.lower ⟨u3.toArray⟩)).length ≤ 10000 := by rw [hn.e]; exact hn.lz
  refine wpAny_call (codeAny_toks ?_)
  k_dflt (refine' code_def ?k1 ?k2 ?k3 ?k4 ?k5 ?kA ?kF ?kK ?k6 ?k7 ?k8 ?k9 ?kB ?_ ?c2 ?c3 ?c4 ?c5; (case kA => exact rfl); (case kF => exact rfl); (case kK => first | exact rfl | assumption); (case k1 => k_asm); (case k2 => k_asm); (case k3 => k_asm); (case k4 => k_asm); (case k5 => k_asm); (case k6 => k_is); (case k7 => k_is); (case k8 => first | ktr_room); (case k9 => first | exact BindsTo.of_eq rfl | exact binds_K (by k_in) rfl (by k_is) rfl rfl rfl); (case c5 => decide); (case kB => exact locs rfl); (case c2 => exact rfl); (case c3 => exact rfl); (case c4 => exact rfl); k_whole; intro g' L' h' FG' F' N' B' X' T'; (try dsimp only); (try k_lift B'); (try k_fold))
  k_steps
  · have hp : preL z [Str.ofString "javascript:", Str.ofString "file:"] = true := by rw [← hn.e]; exact pre_t (by assumption) (by assumption)
    rw [hp, Bool.true_or, if_pos rfl] at hret
    (refine Ret.end hret (by assumption) (by k_asm) (by (first | k_asm | (refine cb_drop (by k_asm) (fun p hp => ?_); repeat (first | exact hp | refine List.Mem.tail _ ?_)))) ?_; try exact ⟨_, rfl⟩)
  · have hp : preL z [Str.ofString "javascript:", Str.ofString "file:"] = false := by rw [← hn.e]; exact pre_t (by assumption) (by assumption)
    have hs : safeL z = true := by rw [← hn.e]; assumption
    rw [hp, hs, Bool.false_or, if_pos rfl] at hret
    (refine Ret.end hret (by assumption) (by k_asm) (by (first | k_asm | (refine cb_drop (by k_asm) (fun p hp => ?_); repeat (first | exact hp | refine List.Mem.tail _ ?_)))) ?_; try exact ⟨_, rfl⟩)
  · have hp : preL z [Str.ofString "javascript:", Str.ofString "file:"] = false := by rw [← hn.e]; exact pre_t (by assumption) (by assumption)
    have hs : safeL z = false := by rw [← hn.e]; assumption
    rw [hp, hs, Bool.false_or, if_neg Bool.false_ne_true] at hret
    (refine Ret.end hret (by assumption) (by k_asm) (by (first | k_asm | (refine cb_drop (by k_asm) (fun p hp => ?_); repeat (first | exact hp | refine List.Mem.tail _ ?_)))) ?_; try exact ⟨_, rfl⟩)
end Mine
end

section
set_option Elab.async false
set_option maxRecDepth 100000
namespace Mine
open PySem PyProof.Rows
def EN : Nat → Nat → List Nat
  | 0, c => [c]
  | m + 1, c => 37 :: ((List.replicate m [50, 53]).flatten ++ [hx (c / 16), hx (c % 16)])
def enc (its : List (Nat × Nat)) : List Nat := its.flatMap fun p => EN p.1 p.2
def decI (its : List (Nat × Nat)) : List (Nat × Nat) := its.map fun p => (p.1 - 1, p.2)
structure ItOk (p : Nat × Nat) : Prop where
  m : p.1 ≤ 3
  c : p.2 < 128
  n : p.2 ≠ 37
theorem decI_ok {its : List (Nat × Nat)} (h : ∀ p ∈ its, ItOk p) : ∀ p ∈ decI its, ItOk p := by
  intro p hp
  obtain ⟨q, hq, rfl⟩ := List.mem_map.mp hp
  have := h q hq
  exact ⟨by have := this.m; show q.1 - 1 ≤ 3; omega, this.c, this.n⟩
theorem hexU_ok : ∀ x ∈ hexU, x ≠ 37 ∧ x < 128 := by decide
theorem unqB_go {c : Nat} {R : List Nat} (h : c ≠ 37) : unqB (c :: R) = Str.utf8Of c ++ unqB R := unqB_else fun ht => h ht.1
theorem b37 : (2 * 16 + 5 : Nat).toUInt8 :: ([] : List UInt8) = Str.utf8Of 37 := by decide
theorem unqB_25 (R : List Nat) : unqB (37 :: 50 :: 53 :: R) = Str.utf8Of 37 ++ unqB R := by
  rw [unqB_hex (by decide) (by decide), ← b37]
  rfl
theorem unqB_EN {m c : Nat} (hm : m ≤ 3) (hc : c < 128) (hn : c ≠ 37) (R : List Nat) : unqB (EN m c ++ R) = bytesL (EN (m - 1) c) ++ unqB R := by
  have ha := hexU_ok _ (hx_lt (n := c / 16) (by omega))
  have hb := hexU_ok _ (hx_lt (n := c % 16) (by omega))
  match m, hm with
  | 0, _ =>
    show unqB (c :: R) = (Str.utf8Of c ++ []) ++ unqB R
    rw [unqB_go hn, List.append_nil]
  | 1, _ =>
    have h1 := hv_hx (c / 16) (by omega)
    have h2 := hv_hx (c % 16) (by omega)
    show unqB (37 :: hx (c / 16) :: hx (c % 16) :: R) = (Str.utf8Of c ++ []) ++ unqB R
    rw [unqB_hex h1.2 h2.2, h1.1, h2.1, utf8_one hc]
    have e : c / 16 * 16 + c % 16 = c := by omega
    rw [e]
    rfl
  | 2, _ =>
    show unqB (37 :: 50 :: 53 :: hx (c / 16) :: hx (c % 16) :: R) = (Str.utf8Of 37 ++ (Str.utf8Of (hx (c / 16)) ++ (Str.utf8Of (hx (c % 16)) ++ []))) ++ unqB R
    rw [unqB_25, unqB_go ha.1, unqB_go hb.1]
    simp
  | 3, _ =>
    show unqB (37 :: 50 :: 53 :: 50 :: 53 :: hx (c / 16) :: hx (c % 16) :: R) = (Str.utf8Of 37 ++ (Str.utf8Of 50 ++ (Str.utf8Of 53 ++ (Str.utf8Of (hx (c / 16)) ++ (Str.utf8Of (hx (c % 16)) ++ []))))) ++ unqB R
    rw [unqB_25, unqB_go (by decide : 50 ≠ 37), unqB_go (by decide : 53 ≠ 37), unqB_go ha.1, unqB_go hb.1]
    simp
theorem unqB_enc : ∀ its : List (Nat × Nat), (∀ p ∈ its, ItOk p) → unqB (enc its) = bytesL (enc (decI its))
  | [], _ => by rw [show enc [] = [] from rfl, unqB]; rfl
  | p :: its, h => by
    have hp := h p (.head _)
    have ih := unqB_enc its fun q hq => h q (.tail _ hq)
    show unqB (EN p.1 p.2 ++ enc its) = bytesL (EN (p.1 - 1) p.2 ++ enc (decI its))
    rw [unqB_EN hp.m hp.c hp.n, ih, bytesL_app]
theorem EN_chars {m c : Nat} (hc : c < 128) : ∀ x ∈ EN m c, x < 128 := by
  intro x hx'
  cases m with
  | zero => rw [List.mem_singleton.mp hx']; exact hc
  | succ m =>
    rcases List.mem_cons.mp hx' with rfl | hx'
    · decide
    · rcases List.mem_append.mp hx' with hx' | hx'
      · obtain ⟨l, hl, hx'⟩ := List.mem_flatten.mp hx'
        rw [(List.mem_replicate.mp hl).2] at hx'
        have : ∀ x ∈ [50, 53], x < 128 := by decide
        exact this x hx'
      · rcases List.mem_cons.mp hx' with rfl | hx'
        · exact (hexU_ok _ (hx_lt (by omega))).2
        · rw [List.mem_singleton.mp hx']
          exact (hexU_ok _ (hx_lt (by omega))).2
theorem EN_len (m c : Nat) : (EN m c).length = 2 * m + 1 := by
  cases m with
  | zero => rfl
  | succ m =>
    show ((List.replicate m [50, 53]).flatten ++ [hx (c / 16), hx (c % 16)]).length + 1 = _
    rw [List.length_append]
    have : ((List.replicate m [50, 53]).flatten).length = 2 * m := by
      induction m with
      | zero => rfl
      | succ m ih => rw [List.replicate_succ, List.flatten_cons, List.length_append, ih]; show 2 + 2 * m = _; omega
    rw [this]
    show 2 * m + 2 + 1 = _
    omega
theorem enc_len : ∀ its : List (Nat × Nat), (∀ p ∈ its, ItOk p) → (enc its).length ≤ 7 * its.length
  | [], _ => Nat.le_refl 0
  | p :: its, h => by
    have ih := enc_len its fun q hq => h q (.tail _ hq)
    have hp := (h p (.head _)).m
    show (EN p.1 p.2 ++ enc its).length ≤ _
    rw [List.length_append, EN_len, List.length_cons]; omega
theorem enc_chars {its : List (Nat × Nat)} (h : ∀ p ∈ its, ItOk p) : ∀ x ∈ enc its, x < 128 := by
  intro x hx'
  obtain ⟨p, hp, hx''⟩ := List.mem_flatMap.mp hx'
  exact EN_chars (h p hp).c x hx''
theorem unq_enc {its : List (Nat × Nat)} (h : ∀ p ∈ its, ItOk p) (hl : its.length ≤ 1000) : Unq (enc its) (enc (decI its)) where
  la := by have := enc_len its h; omega
  sa := fun c hc => ok_sur (.inl (by have := enc_chars h c hc; omega))
  sb := fun c hc => .inl (by have := enc_chars (decI_ok h) c hc; omega)
  lb := by
    have := enc_len (decI its) (decI_ok h)
    have e : (decI its).length = its.length := List.length_map ..
    omega
  e := unqB_enc its h
theorem dec_le : ∀ its : List (Nat × Nat), (enc (decI its)).length ≤ (enc its).length
  | [] => Nat.le_refl 0
  | p :: its => by
    have ih := dec_le its
    show (EN (p.1 - 1) p.2 ++ enc (decI its)).length ≤ (EN p.1 p.2 ++ enc its).length
    rw [List.length_append, List.length_append, EN_len, EN_len]; omega
theorem dec_eq : ∀ its : List (Nat × Nat), (enc (decI its)).length = (enc its).length → decI its = its
  | [], _ => rfl
  | p :: its, h => by
    have h1 := dec_le its
    have h : (EN (p.1 - 1) p.2 ++ enc (decI its)).length = (EN p.1 p.2 ++ enc its).length := h
    rw [List.length_append, List.length_append, EN_len, EN_len] at h
    have ih := dec_eq its (by omega)
    show (p.1 - 1, p.2) :: decI its = p :: its
    rw [ih]
    have : p.1 = 0 := by omega
    rw [this]
    obtain ⟨a, b⟩ := p
    cases this
    rfl
theorem enc_zero : ∀ its : List (Nat × Nat), (∀ p ∈ its, p.1 = 0) → enc its = its.map (·.2)
  | [], _ => rfl
  | p :: its, h => by
    show EN p.1 p.2 ++ enc its = p.2 :: its.map (·.2)
    rw [h p (.head _), enc_zero its fun q hq => h q (.tail _ hq)]
    rfl
theorem dec3 {its : List (Nat × Nat)} (h : ∀ p ∈ its, ItOk p) : enc (decI (decI (decI its))) = its.map (·.2) := by
  rw [enc_zero]
  · simp [decI]
  · intro p hp
    obtain ⟨p1, hp1, rfl⟩ := List.mem_map.mp hp
    obtain ⟨p2, hp2, rfl⟩ := List.mem_map.mp hp1
    obtain ⟨p3, hp3, rfl⟩ := List.mem_map.mp hp2
    have := (h p3 hp3).m
    show p3.1 - 1 - 1 - 1 = 0
    omega
/-- what the spelling holds, sign by sign -/
def laidI (n : Int) : List (Nat × Nat) := if n.fmod 3 = 0 then [(0, 32)] else if n.fmod 3 = 1 then [(1, 32)] else []
def spI (ns : List Int) (text : List Nat) : Nat → List (Nat × Nat)
  | 0 => laidI (numL ns 1)
  | k + 1 => spI ns text k ++ [(((numL ns (2 + k)).fmod 4).toNat, sg (numL ns (2 + k)) (text.getD k 0))]
theorem laid_list (n : Int) : (laidS n).cps.toList = enc (laidI n) := by
  have h := fmod_bnd n 3 (by decide)
  have h4 : n.fmod 3 = 0 ∨ n.fmod 3 = 1 ∨ n.fmod 3 = 2 := by omega
  unfold laidS laidI
  rcases h4 with h | h | h <;> rw [h] <;> decide
theorem mul_list (k : Int) (m : Nat) (hm : k = m) (h3 : m ≤ 2) : (Txt.mul (Str.ofString "25") k).cps.toList = (List.replicate m [50, 53]).flatten := by
  subst hm
  match m, h3 with
  | 0, _ => decide
  | 1, _ => decide
  | 2, _ => decide
theorem spC_list (n : Int) (c : Nat) : (spC n c).cps.toList = EN (n.fmod 4).toNat (sg n c) := by
  have h := fmod_bnd n 4 (by decide)
  unfold spC
  by_cases h0 : 0 < n.fmod 4
  · rw [if_pos h0]
    obtain ⟨m, hm⟩ : ∃ m, (n.fmod 4).toNat = m + 1 := ⟨(n.fmod 4).toNat - 1, by omega⟩
    rw [hm, Str.cps_append, Str.cps_append, Array.toList_append, Array.toList_append, mul_list (n.fmod 4 - 1) m (by omega) (by omega)]
    show ([37] ++ (List.replicate m [50, 53]).flatten) ++ [hx (sg n c / 16), hx (sg n c % 16)] = 37 :: ((List.replicate m [50, 53]).flatten ++ [hx (sg n c / 16), hx (sg n c % 16)])
    rw [List.singleton_append, List.cons_append]
  · rw [if_neg h0]
    have : (n.fmod 4).toNat = 0 := by omega
    rw [this]
    rfl
theorem sp_list (ns : List Int) (text : List Nat) : ∀ k, (spUpto ns text k).cps.toList = enc (spI ns text k)
  | 0 => laid_list _
  | k + 1 => by
    show (spUpto ns text k ++ spC (numL ns (2 + k)) (text.getD k 0)).cps.toList = enc (spI ns text k ++ [_])
    rw [Str.cps_append, Array.toList_append, sp_list ns text k, spC_list]
    unfold enc
    rw [List.flatMap_append]
    simp
def TX : List Str := [Str.ofString "javascript:a", Str.ofString "vbscript:a", Str.ofString "file:/a", Str.ofString "data:text/html,a", Str.ofString "x:y",
  Str.ofString "http://a", Str.ofString "https:a", Str.ofString "mailto:a", Str.ofString "/a:b", Str.ofString "#a:b", Str.ofString "?a:b", Str.ofString "a/b:c", Str.ofString "data:image/png;a"]
theorem TX_ok : ∀ x ∈ TX, x.length ≤ 20 ∧ ∀ c ∈ x.cps.toList, c < 128 ∧ upC c < 128 ∧ c ≠ 37 ∧ upC c ≠ 37 ∧ lo1 c = c ∧ lo1 (upC c) = c := by decide +kernel
theorem TX_strip : ∀ x ∈ TX, Txt.lstrip ⟨(32 :: x.cps.toList).toArray⟩ = x ∧ Txt.lstrip x = x := by decide +kernel
end Mine
end

section
set_option Elab.async false
set_option maxRecDepth 100000
namespace Mine
open PySem PyProof.Rows
theorem sg_cases (n : Int) (c : Nat) : sg n c = upC c ∨ sg n c = c := by
  unfold sg
  split
  · exact .inl rfl
  · exact .inr rfl
theorem laidI_ok (n : Int) : (∀ p ∈ laidI n, ItOk p) ∧ (laidI n).length ≤ 1 ∧ ((laidI n).map (fun p => lo1 p.2) = [32] ∨ (laidI n).map (fun p => lo1 p.2) = []) := by
  unfold laidI
  split
  · refine ⟨fun p hp => ?_, Nat.le_refl 1, .inl rfl⟩
    rw [List.mem_singleton.mp hp]
    exact ⟨by decide, by decide, by decide⟩
  · split
    · refine ⟨fun p hp => ?_, Nat.le_refl 1, .inl rfl⟩
      rw [List.mem_singleton.mp hp]
      exact ⟨by decide, by decide, by decide⟩
    · exact ⟨fun p hp => (nomatch hp), Nat.zero_le 1, .inr rfl⟩
theorem spI_ok (ns : List Int) {x : Str} (hx : x ∈ TX) : ∀ k, k ≤ x.cps.toList.length → (∀ p ∈ spI ns x.cps.toList k, ItOk p) ∧ (spI ns x.cps.toList k).length ≤ k + 1 ∧
    (spI ns x.cps.toList k).map (fun p => lo1 p.2) = (laidI (numL ns 1)).map (fun p => lo1 p.2) ++ x.cps.toList.take k
  | 0, _ => ⟨(laidI_ok _).1, (laidI_ok _).2.1, by rw [List.take_zero, List.append_nil]; rfl⟩
  | k + 1, hk => by
    obtain ⟨h1, h2, h3⟩ := spI_ok ns hx k (by omega)
    have hlt : k < x.cps.toList.length := by omega
    have hc : x.cps.toList[k]? = some (x.cps.toList[k]) := List.getElem?_eq_getElem hlt
    have hg : x.cps.toList.getD k 0 = x.cps.toList[k] := by rw [List.getD_eq_getElem?_getD, hc]; rfl
    have hok := (TX_ok x hx).2 _ (List.getElem_mem hlt)
    have hf := fmod_bnd (numL ns (2 + k)) 4 (by decide)
    refine ⟨fun p hp => ?_, ?_, ?_⟩
    · rcases List.mem_append.mp hp with hp | hp
      · exact h1 p hp
      · rw [List.mem_singleton.mp hp, hg]
        rcases sg_cases (numL ns (2 + k)) (x.cps.toList[k]) with e | e
        · exact ⟨by show (Int.toNat _) ≤ 3; omega, by show sg _ _ < 128; rw [e]; exact hok.2.1, by show sg _ _ ≠ 37; rw [e]; exact hok.2.2.2.1⟩
        · exact ⟨by show (Int.toNat _) ≤ 3; omega, by show sg _ _ < 128; rw [e]; exact hok.1, by show sg _ _ ≠ 37; rw [e]; exact hok.2.2.1⟩
    · show (spI ns x.cps.toList k ++ [_]).length ≤ _
      rw [List.length_append, List.length_singleton]; omega
    · show (spI ns x.cps.toList k ++ [_]).map _ = _
      rw [List.map_append, h3, List.append_assoc, List.take_add_one, hc]
      congr 2
      show [lo1 (sg (numL ns (2 + k)) (x.cps.toList.getD k 0))] = [x.cps.toList[k]]
      rw [hg]
      rcases sg_cases (numL ns (2 + k)) (x.cps.toList[k]) with e | e
      · rw [e, hok.2.2.2.2.2]
      · rw [e, hok.2.2.2.2.1]
theorem norm_of (ns : List Int) {x : Str} (hx : x ∈ TX) : ∃ u1 u2 u3, Norm (spUpto ns x.cps.toList x.length) u1 u2 u3 x := by
  have hl : x.cps.toList.length = x.length := Array.length_toList
  obtain ⟨h1, h2, h3⟩ := spI_ok ns hx x.length (by omega)
  have hxl := (TX_ok x hx).1
  generalize hits : spI ns x.cps.toList x.length = its at h1 h2 h3
  have hy : (spUpto ns x.cps.toList x.length).cps.toList = enc its := by rw [sp_list, hits]
  have d1 := decI_ok h1
  have d2 := decI_ok d1
  have l1 : (decI its).length = its.length := List.length_map ..
  have l2 : (decI (decI its)).length = its.length := (List.length_map ..).trans l1
  have e3 := dec3 h1
  refine ⟨enc (decI its), enc (decI (decI its)), enc (decI (decI (decI its))), ⟨?_, ?_, ?_, fun e => ?_, fun e => ?_⟩, ?_, ?_, ?_⟩
  · rw [hy]; exact unq_enc h1 (by omega)
  · exact unq_enc d1 (by omega)
  · exact unq_enc d2 (by omega)
  · rw [hy] at e
    have := dec_eq its (by rw [e])
    rw [this, this, this]
  · have := dec_eq (decI its) (by rw [e])
    rw [this, this]
  · have hA : ∀ c ∈ (⟨(enc (decI (decI (decI its)))).toArray⟩ : Str).cps.toList, c < 128 := enc_chars (decI_ok d2)
    rw [lower_ascii hA]
    have e4 : (⟨(⟨(enc (decI (decI (decI its)))).toArray⟩ : Str).cps.map lo1⟩ : Str) = ⟨((enc (decI (decI (decI its)))).map lo1).toArray⟩ := by simp
    rw [e4, e3, List.map_map]
    have e5 : its.map (lo1 ∘ (·.2)) = (laidI (numL ns 1)).map (fun p => lo1 p.2) ++ x.cps.toList := by
      have := h3
      rw [List.take_of_length_le (by omega)] at this
      exact this
    rw [e5]
    rcases (laidI_ok (numL ns 1)).2.2 with h | h <;> rw [h]
    · exact (TX_strip x hx).1
    · exact (TX_strip x hx).2
  · rw [e3, List.length_map]; omega
  · omega
def BADS : List Str := [Str.ofString "javascript:a", Str.ofString "vbscript:a", Str.ofString "file:/a", Str.ofString "data:text/html,a", Str.ofString "x:y"]
def GOODS : List Str := [Str.ofString "http://a", Str.ofString "https:a", Str.ofString "mailto:a", Str.ofString "/a:b", Str.ofString "#a:b", Str.ofString "?a:b", Str.ofString "a/b:c", Str.ofString "data:image/png;a"]
theorem bad_in : ∀ x ∈ BADS, x ∈ TX := by decide +kernel
theorem good_in : ∀ x ∈ GOODS, x ∈ TX := by decide +kernel
theorem bad_safe : ∀ x ∈ BADS, safeL x = false := by decide +kernel
theorem good_safe : ∀ x ∈ GOODS, safeL x = true := by decide +kernel
def badOf (k : Int) : Str := BADS.getD (k.fmod 5).toNat Str.empty
def goodOf (k : Int) : Str := GOODS.getD (k.fmod 8).toNat Str.empty
theorem badOf_in (k : Int) : badOf k ∈ BADS := by
  have h := fmod_bnd k 5 (by decide)
  have hl : (k.fmod 5).toNat < BADS.length := by
    show _ < 5
    omega
  unfold badOf
  rw [List.getD_eq_getElem?_getD, List.getElem?_eq_getElem hl]
  exact List.getElem_mem hl
theorem goodOf_in (k : Int) : goodOf k ∈ GOODS := by
  have h := fmod_bnd k 8 (by decide)
  have hl : (k.fmod 8).toNat < GOODS.length := by
    show _ < 8
    omega
  unfold goodOf
  rw [List.getD_eq_getElem?_getD, List.getElem?_eq_getElem hl]
  exact List.getElem_mem hl
theorem bad_pre (k : Int) : preL (badOf k) [Str.ofString "javascript:", Str.ofString "file:"] = (decide (k.fmod 5 = 0) || decide (k.fmod 5 = 2)) := by
  have h := fmod_bnd k 5 (by decide)
  have h5 : k.fmod 5 = 0 ∨ k.fmod 5 = 1 ∨ k.fmod 5 = 2 ∨ k.fmod 5 = 3 ∨ k.fmod 5 = 4 := by omega
  unfold badOf
  rcases h5 with h | h | h | h | h <;> rw [h] <;> decide +kernel
end Mine
end

section
open PySem PySem.W PyProof.Rows PySem.Calls PySem.Spec
set_option Elab.async false
set_option maxRecDepth 100000
namespace Mine
def spB (ns : List Int) (k : Int) : Str := spUpto ns (badOf k).cps.toList (badOf k).length
def spG (ns : List Int) (k : Int) : Str := spUpto ns (goodOf k).cps.toList (goodOf k).length
theorem SpecH.imp {w : World} {k : Nat} {f : Addr} {P P' : Heap → List (Addr × Obj) → Prop} {vs : List Value} {R R' : Tok → Value} (H : SpecH w k f P vs R) (hP : ∀ h n, P' h n → P h n) (hR : R = R') : SpecH w k f P' vs R' := by
  subst hR
  unfold SpecH at H ⊢
  intro p loose mean mg mb dp un gd cn cs ac ccd cl outer A₀ base h₀ L m news s Q E B F X N T hk hP' hd hu hret
  exact H p loose mean mg mb dp un gd cn cs ac ccd cl outer A₀ base h₀ L m news s Q E B F X N T hk (hP _ _ hP') hd hu hret
abbrev ListAt (S : Addr) (ns : List Int) (vs : List Value) : Heap → List (Addr × Obj) → Prop := fun h₀ _ => h₀.IsList S vs.toArray ∧ IntsAre vs ns ∧ ns.length ≤ 63
theorem bad_spec (w : World) (S : Addr) (ns : List Int) (vs : List Value) (k : Int) (t : Tok) : SpecH w 5 426 (ListAt S ns vs) [.str (badOf k) t, .ref S] (fun t => .str (spB ns k) t) :=
  (spelled_spec w S ns vs (badOf k) t).imp (fun h n ⟨h1, h2, h3⟩ => ⟨h1, h2, h3, by have := (TX_ok _ (bad_in _ (badOf_in k))).1; omega, fun c hc => ((TX_ok _ (bad_in _ (badOf_in k))).2 c hc).1⟩) rfl
theorem good_spec (w : World) (S : Addr) (ns : List Int) (vs : List Value) (k : Int) (t : Tok) : SpecH w 5 426 (ListAt S ns vs) [.str (goodOf k) t, .ref S] (fun t => .str (spG ns k) t) :=
  (spelled_spec w S ns vs (goodOf k) t).imp (fun h n ⟨h1, h2, h3⟩ => ⟨h1, h2, h3, by have := (TX_ok _ (good_in _ (goodOf_in k))).1; omega, fun c hc => ((TX_ok _ (good_in _ (goodOf_in k))).2 c hc).1⟩) rfl
abbrev IsR (w : World) (x d d1 : Addr) (t1 t2 t3 : Tok) (v : Value) : Heap → List (Addr × Obj) → Prop := fun _ news => (x, instObj 393 d) ∈ news ∧ (d, rDict w v d1 t1 t2 t3) ∈ news
theorem plain_bad (w : World) (x d d1 : Addr) (t1 t2 t3 t : Tok) (ns : List Int) (k : Int) : SpecH w 8 240 (IsR w x d d1 t1 t2 t3 .none) [.ref x, .str (spB ns k) t] (fun t => .str (Str.ofString "#harmful-link") t) := by
  obtain ⟨u1, u2, u3, hn⟩ := norm_of ns (bad_in _ (badOf_in k))
  refine (san_plain w x d d1 t1 t2 t3 (spB ns k) (badOf k) t u1 u2 u3 hn).imp (fun _ _ h => h) ?_
  rw [bad_safe _ (badOf_in k)]
  rfl
theorem plain_good (w : World) (x d d1 : Addr) (t1 t2 t3 t : Tok) (ns : List Int) (k : Int) : SpecH w 8 240 (IsR w x d d1 t1 t2 t3 .none) [.ref x, .str (spG ns k) t] (fun t => .str (spG ns k) t) := by
  obtain ⟨u1, u2, u3, hn⟩ := norm_of ns (good_in _ (goodOf_in k))
  refine (san_plain w x d d1 t1 t2 t3 (spG ns k) (goodOf k) t u1 u2 u3 hn).imp (fun _ _ h => h) ?_
  rw [good_safe _ (goodOf_in k)]
  rfl
theorem free_any (w : World) (x d d1 : Addr) (t1 t2 t3 t : Tok) (y : Str) : SpecH w 8 240 (IsR w x d d1 t1 t2 t3 (.bool true)) [.ref x, .str y t] (fun t => .str y t) := san_free w x d d1 t1 t2 t3 y t
abbrev IsS (w : World) (x d d1 T : Addr) (t1 t2 t3 a1 a2 n9 : Tok) : Heap → List (Addr × Obj) → Prop := fun _ news => (x, instObj 393 d) ∈ news ∧ (d, rDict w (.ref T) d1 t1 t2 t3) ∈ news ∧ (T, tup2 a1 a2 n9) ∈ news
theorem some_good (w : World) (x d d1 T : Addr) (t1 t2 t3 a1 a2 n9 t : Tok) (ns : List Int) (k : Int) : SpecH w 8 240 (IsS w x d d1 T t1 t2 t3 a1 a2 n9) [.ref x, .str (spG ns k) t] (fun t => .str (spG ns k) t) := by
  obtain ⟨u1, u2, u3, hn⟩ := norm_of ns (good_in _ (goodOf_in k))
  refine (san_some w x d d1 T t1 t2 t3 a1 a2 n9 (spG ns k) (goodOf k) t u1 u2 u3 hn).imp (fun _ _ h => h) ?_
  rw [good_safe _ (goodOf_in k), Bool.or_true]
  rfl
def someR (ns : List Int) (k : Int) : Str := if (decide (k.fmod 5 = 0) || decide (k.fmod 5 = 2)) = true then spB ns k else HARM
theorem some_bad (w : World) (x d d1 T : Addr) (t1 t2 t3 a1 a2 n9 t : Tok) (ns : List Int) (k : Int) : SpecH w 8 240 (IsS w x d d1 T t1 t2 t3 a1 a2 n9) [.ref x, .str (spB ns k) t] (fun t => .str (someR ns k) t) := by
  obtain ⟨u1, u2, u3, hn⟩ := norm_of ns (bad_in _ (badOf_in k))
  refine (san_some w x d d1 T t1 t2 t3 a1 a2 n9 (spB ns k) (badOf k) t u1 u2 u3 hn).imp (fun _ _ h => h) ?_
  rw [bad_safe _ (badOf_in k), Bool.or_false, bad_pre]
  rfl
section
variable {prog : Program} {w : World} {A : Around} {E : Value → Shared → Prop} {s : Shared} {h₀ : Heap} {L a : Addr} {m : Str → Option Value} {value slice : Expr} {o : Obj} {l : List Value} {n : Nat} {k : Int} {u : Tok} {Q : Value → Shared → Prop}
theorem item_badK (F : Fr h₀ L s.heap m) (ho : h₀.get? a = some o) (hc : o.cls = .type "tuple") (hd : o.data = .seq l.toArray n) (ha : allStr l = true) (hl : strsOf l = BADS) (h : ∀ t', Q (.str (badOf k) t') s)
    (hs : subscripted slice false (.ref a) (.int (k.fmod 5) u) = operate [.ref a, .int (k.fmod 5) u] (getItem (.ref a) (.int (k.fmod 5) u)) := by with_unfolding_all rfl) (hg : ∀ r, letTemporaryGo value (.ref a) r = pure () := by intro _; with_unfolding_all rfl) :
    wpAny (model prog w) A (subscriptTail value slice (.ref a) (.int (k.fmod 5) u)) Q E s := by
  have hi := strsAre_of ha
  rw [hl] at hi
  have hf := fmod_bnd k 5 (by decide)
  exact item_strsTu (l := l) ⟨o, F.keep _ _ ho, hc, n, hd⟩ hi hf.1 (show k.fmod 5 < ((5 : Nat) : Int) by omega) (by omega) h hs hg
theorem item_goodK (F : Fr h₀ L s.heap m) (ho : h₀.get? a = some o) (hc : o.cls = .type "tuple") (hd : o.data = .seq l.toArray n) (ha : allStr l = true) (hl : strsOf l = GOODS) (h : ∀ t', Q (.str (goodOf k) t') s)
    (hs : subscripted slice false (.ref a) (.int (k.fmod 8) u) = operate [.ref a, .int (k.fmod 8) u] (getItem (.ref a) (.int (k.fmod 8) u)) := by with_unfolding_all rfl) (hg : ∀ r, letTemporaryGo value (.ref a) r = pure () := by intro _; with_unfolding_all rfl) :
    wpAny (model prog w) A (subscriptTail value slice (.ref a) (.int (k.fmod 8) u)) Q E s := by
  have hi := strsAre_of ha
  rw [hl] at hi
  have hf := fmod_bnd k 8 (by decide)
  exact item_strsTu (l := l) ⟨o, F.keep _ _ ho, hc, n, hd⟩ hi hf.1 (show k.fmod 8 < ((8 : Nat) : Int) by omega) (by omega) h hs hg
end
end Mine
end

section
open PySem PySem.W PyProof.Rows PySem.Calls PySem.Spec
set_option Elab.async false
set_option maxRecDepth 100000
namespace Mine
abbrev lawIf (p1 p2 p3 p4 p5 p6 p7 p8 : Pos) : Expr :=
  Expr.IfExp (Expr.Compare (Expr.Name (Str.ofString "kind") p1) [CmpOp.In] [Expr.Tuple [Expr.Constant (Const.int 0) 0 p2, Expr.Constant (Const.int 2) 0 p3] 0 p4] p5)
    (Expr.Name (Str.ofString "bad") p6) (Expr.Constant (Const.str (Str.ofString "#harmful-link")) 0 p7) p8
theorem in_two {prog : Program} {w : World} {A : Around} {E : Value → Shared → Prop} {s : Shared} {h₀ : Heap} {L T : Addr} {news : List (Addr × Obj)} {a b : Tok} {n : Nat} {x : Int} {u : Tok} {Q : Value → Shared → Prop}
    (N : News h₀ L s.heap ((T, ({ cls := .type "tuple", data := .seq #[.int 0 a, .int 2 b] n } : Obj)) :: news)) (h : ∀ b, b = (decide (x = 0) || decide (x = 2)) → Q (.bool b) s) :
    wpAny (model prog w) A (compareOp .In (.int x u) (.ref T)) Q E s := by
  refine in_tuple_ints (ns := [0, 2]) ⟨_, (N _ (.head _)).1, rfl, _, rfl⟩ (.cons _ _ (.cons _ _ .nil)) (h _ ?_)
  simp only [List.any_cons, List.any_nil, Bool.or_false]
  congr 1 <;> (rw [Bool.eq_iff_iff]; simp only [beq_iff_eq, decide_eq_true_eq]; omega)
theorem law_if {prog : Program} {w : World} {A : Around} {E : Value → Shared → Prop} {s : Shared} {h₀ : Heap} {L : Addr} {m : Str → Option Value} {news : List (Addr × Obj)} {nm : Str} {sc : Scope} {fa : Addr} {cd : Value} {p1 p2 p3 p4 p5 p6 p7 p8 : Pos} {k : Int} {u t : Tok} {y : Str}
    {Q : Value → Shared → Prop} (F : Fr h₀ L s.heap m) (N : News h₀ L s.heap news) (hk : m (Str.ofString "kind") = some (.int k u)) (hb : m (Str.ofString "bad") = some (.str y t))
    (fn : sc.kind = .function) (lk : (envOf nm sc L fa cd).kindOf (Str.ofString "kind") = some .local) (lb : (envOf nm sc L fa cd).kindOf (Str.ofString "bad") = some .local)
    (h : ∀ v tt h' tk', v = (if (decide (k = 0) || decide (k = 2)) = true then y else HARM) → Fr h₀ L h' m → News h₀ L h' news → Q (.str v tt) { s with heap := h', toks := tk' }) :
    wpAny (model prog w) A (eval (lawIf p1 p2 p3 p4 p5 p6 p7 p8) (envOf nm sc L fa cd)) Q E s := by
  refine IfExp_ ?_
  walk1
  refine ld F hk ?_ fn lk
  refine Tuple_ ?_
  walk1
  walk1
  walk1
  walk1
  walk1
  refine kup_newTuple F N (fun D h1 F1 N1 _ => ?_) (by rw [sizeLine_eq]; exact (by decide : 2 ≤ 16777216))
  have N2 := cb_drop N1 (fun p hp => .tail _ hp)
  refine in_two N1 (fun b hb2 => ?_)
  refine wpAny_truthy_bool ?_
  subst hb2
  cases hc : (decide (k = 0) || decide (k = 2)) with
  | true =>
    rw [if_pos rfl]
    refine ld F1 hb ?_ fn lb
    exact h y t h1 (s.toks + 1 + 1) (by rw [if_pos hc]) F1 N2
  | false =>
    rw [if_neg Bool.false_ne_true]
    walk1
    exact h HARM _ h1 _ (by rw [hc, if_neg Bool.false_ne_true]) F1 N2
theorem law_ifR {prog : Program} {w : World} {A : Around} {E : Value → Shared → Prop} {s : Shared} {h₀ : Heap} {L : Addr} {m : Str → Option Value} {news : List (Addr × Obj)} {nm : Str} {sc : Scope} {fa : Addr} {cd : Value} {p1 p2 p3 p4 p5 p6 p7 p8 : Pos} {ns : List Int} {k : Int} {u t : Tok}
    {Q : Value → Shared → Prop} (F : Fr h₀ L s.heap m) (N : News h₀ L s.heap news) (hk : m (Str.ofString "kind") = some (.int (k.fmod 5) u)) (hb : m (Str.ofString "bad") = some (.str (spB ns k) t))
    (fn : sc.kind = .function) (lk : (envOf nm sc L fa cd).kindOf (Str.ofString "kind") = some .local) (lb : (envOf nm sc L fa cd).kindOf (Str.ofString "bad") = some .local)
    (h : ∀ tt h' tk', Fr h₀ L h' m → News h₀ L h' news → Q (.str (someR ns k) tt) { s with heap := h', toks := tk' }) :
    wpAny (model prog w) A (eval (lawIf p1 p2 p3 p4 p5 p6 p7 p8) (envOf nm sc L fa cd)) Q E s := by
  refine law_if F N hk hb fn lk lb (fun v tt h' tk' e F' N' => ?_)
  have e2 : v = someR ns k := e
  subst e2
  exact h tt h' tk' F' N'
end Mine
end

section
open PySem PySem.W PyProof.Rows PySem.Calls PySem.Spec
set_option Elab.async false
set_option maxRecDepth 100000
namespace Mine
local macro_rules | `(tactic| k_all) => `(tactic| (first | exact lt_ne0 (by assumption) | exact lt_ne1 (by assumption) | exact allLt_ne0 (by assumption) | exact allLt_ne1 (by assumption)))
local macro_rules | `(tactic| walk_at "eval ListComp") => `(tactic| (k_here; refine wpAny_toks ?_; k_dflt (refine LCg.ListComp_U (F₀ := by k_asm) (by with_unfolding_all rfl) (by decide) (by rfl) (by decide) (by rfl) ?_)))
local macro_rules | `(tactic| walk_at "CompSrc") => `(tactic| (k_here; refine Held.go ?_))
local macro_rules | `(tactic| walk_at "call ref") => `(tactic| (k_here; (with_reducible show wpAny _ _ (call (Value.ref 393) _ _) _ _ _); k_dflt (first
  | (refine' call_new (new_none _) ?k1 ?k2 ?k3 ?k4 ?k5 ?k6 ?k8 ?k9 ?_; (case k1 => k_asm); (case k2 => k_asm); (case k3 => k_asm); (case k4 => k_asm); (case k5 => k_asm); (case k6 => first | exact rfl | assumption); (case k8 => ktr_room); (case k9 => ktr_units); intro x' d' d1' t1' t2' t3' h' tk' F' N' l1 l2; (try k_lt l2); (try k_lt2 l1))
  | (refine' call_new (new_with _ _) ?k1 ?k2 ?k3 ?k4 ?k5 ?k6 ?k8 ?k9 ?_; (case k1 => k_asm); (case k2 => k_asm); (case k3 => k_asm); (case k4 => k_asm); (case k5 => k_asm); (case k6 => first | exact rfl | assumption); (case k8 => ktr_room); (case k9 => ktr_units); intro x' d' d1' t1' t2' t3' h' tk' F' N' l1 l2; (try k_lt l2); (try k_lt2 l1)))))
local macro_rules | `(tactic| walk_at "call ref") => `(tactic| (k_here; (with_reducible show wpAny _ _ (call (Value.ref 431) _) _ _ _); refine Held.go ?_))
local macro_rules | `(tactic| walk_at "call ref") => `(tactic| (k_here; (with_reducible show wpAny _ _ (call (Value.ref 240) [Value.ref _, Value.str (spB _ _) _]) _ _ _); k_dflt (refine call_ofH (some_bad _ _ _ _ _ _ _ _ _ _ _ _ _ _) (by k_asm) (by k_asm) (by k_asm) (by k_asm) (by k_asm) (by first | exact rfl | assumption) ⟨by k_mem, by k_mem, by k_mem⟩ (by ktr_room) (by ktr_units) ?_); intro t' h' tk' hl' F' N'; (try dsimp only at hl')))
local macro_rules | `(tactic| walk_at "call ref") => `(tactic| (k_here; (with_reducible show wpAny _ _ (call (Value.ref 240) [Value.ref _, Value.str (spB _ _) _]) _ _ _); k_dflt (refine call_ofH (free_any _ _ _ _ _ _ _ _ _) (by k_asm) (by k_asm) (by k_asm) (by k_asm) (by k_asm) (by first | exact rfl | assumption) ⟨by k_mem, by k_mem⟩ (by ktr_room) (by ktr_units) ?_); intro t' h' tk' hl' F' N'; (try dsimp only at hl')))
local macro_rules | `(tactic| walk_at "call ref") => `(tactic| (k_here; (with_reducible show wpAny _ _ (call (Value.ref 240) [Value.ref _, Value.str (spB _ _) _]) _ _ _); k_dflt (refine call_ofH (plain_bad _ _ _ _ _ _ _ _ _ _) (by k_asm) (by k_asm) (by k_asm) (by k_asm) (by k_asm) (by first | exact rfl | assumption) ⟨by k_mem, by k_mem⟩ (by ktr_room) (by ktr_units) ?_); intro t' h' tk' hl' F' N'; (try dsimp only at hl')))
local macro_rules | `(tactic| walk_at "call ref") => `(tactic| (k_here; (with_reducible show wpAny _ _ (call (Value.ref 240) [Value.ref _, Value.str (spG _ _) _]) _ _ _); k_dflt (refine call_ofH (some_good _ _ _ _ _ _ _ _ _ _ _ _ _ _) (by k_asm) (by k_asm) (by k_asm) (by k_asm) (by k_asm) (by first | exact rfl | assumption) ⟨by k_mem, by k_mem, by k_mem⟩ (by ktr_room) (by ktr_units) ?_); intro t' h' tk' hl' F' N'; (try dsimp only at hl')))
local macro_rules | `(tactic| walk_at "call ref") => `(tactic| (k_here; (with_reducible show wpAny _ _ (call (Value.ref 240) [Value.ref _, Value.str (spG _ _) _]) _ _ _); k_dflt (refine call_ofH (plain_good _ _ _ _ _ _ _ _ _ _) (by k_asm) (by k_asm) (by k_asm) (by k_asm) (by k_asm) (by first | exact rfl | assumption) ⟨by k_mem, by k_mem⟩ (by ktr_room) (by ktr_units) ?_); intro t' h' tk' hl' F' N'; (try dsimp only at hl')))
local macro_rules | `(tactic| walk_at "call ref") => `(tactic| (k_here; (with_reducible show wpAny _ _ (call (Value.ref 426) [Value.str (badOf _) _, Value.ref _]) _ _ _); k_dflt (refine' call_ofH (bad_spec _ _ _ _ _ _) ?k1 ?k2 ?k3 ?k4 ?k5 ?k6 ?k7 ?k8 ?k9 ?_; (case k1 => k_asm); (case k2 => k_asm); (case k3 => k_asm); (case k4 => k_asm); (case k5 => k_asm); (case k6 => first | exact rfl | assumption); (case k7 => refine ⟨by assumption, by assumption, ?_⟩ <;> omega); (case k8 => ktr_room); (case k9 => ktr_units); intro t' h' tk' hl' F' N'; (try dsimp only at hl'))))
local macro_rules | `(tactic| walk_at "call ref") => `(tactic| (k_here; (with_reducible show wpAny _ _ (call (Value.ref 426) [Value.str (goodOf _) _, Value.ref _]) _ _ _); k_dflt (refine' call_ofH (good_spec _ _ _ _ _ _) ?k1 ?k2 ?k3 ?k4 ?k5 ?k6 ?k7 ?k8 ?k9 ?_; (case k1 => k_asm); (case k2 => k_asm); (case k3 => k_asm); (case k4 => k_asm); (case k5 => k_asm); (case k6 => first | exact rfl | assumption); (case k7 => refine ⟨by assumption, by assumption, ?_⟩ <;> omega); (case k8 => ktr_room); (case k9 => ktr_units); intro t' h' tk' hl' F' N'; (try dsimp only at hl'))))
local macro_rules | `(tactic| walk_at "subscriptTail") => `(tactic| (k_here; (with_reducible show wpAny _ _ (subscriptTail _ _ (Value.ref 411) _) _ _ _); k_dflt (refine' item_badK ?a ?b ?c ?d ?e ?f ?_; (case a => k_asm); (case b => exact (by with_reducible assumption : Frag.In _ _) _ _ (by k_is)); (case c => exact rfl); (case d => exact rfl); (case e => exact rfl); (case f => exact rfl); intro t')))
local macro_rules | `(tactic| walk_at "subscriptTail") => `(tactic| (k_here; (with_reducible show wpAny _ _ (subscriptTail _ _ (Value.ref 412) _) _ _ _); k_dflt (refine' item_goodK ?a ?b ?c ?d ?e ?f ?_; (case a => k_asm); (case b => exact (by with_reducible assumption : Frag.In _ _) _ _ (by k_is)); (case c => exact rfl); (case d => exact rfl); (case e => exact rfl); (case f => exact rfl); intro t')))
local macro_rules | `(tactic| walk_at "call ref") => `(tactic| (k_here; (with_reducible show wpAny _ _ (call (Value.ref 419) _) _ _ _); k_dflt (refine' call_ofH (number_specI _ _ _ _ _ _) ?k1 ?k2 ?k3 ?k4 ?k5 ?k6 ?k7 ?k8 ?k9 ?_; (case k1 => k_asm); (case k2 => k_asm); (case k3 => k_asm); (case k4 => k_asm); (case k5 => k_asm); (case k6 => first | exact rfl | assumption); (case k7 => refine ⟨by assumption, by assumption, ?_, ?_, ?_⟩ <;> omega); (case k8 => ktr_room); (case k9 => ktr_units); intro t' h' tk' hl' F' N'; (try dsimp only at hl'))))
local macro_rules | `(tactic| walk_at "ite") => `(tactic| (k_here; first | refine ite_neg (by simp only [bne_self_eq_false, Bool.false_eq_true, not_false_eq_true]) ?_ | refine ite_pos (by simp only [beq_self_eq_true]) ?_))
local macro_rules | `(tactic| walk_at "eval IfExp") => `(tactic| (k_here; k_dflt (refine law_ifR (by k_asm) (by k_asm) (by exact rfl) (by exact rfl) (by exact rfl) (by exact rfl) (by exact rfl) ?_); intro t' h' tk' F' N'))
local macro_rules | `(tactic| walk_at "call builtin:str.join") => `(tactic| (k_here; refine Held.go ?_))
local macro_rules | `(tactic| walk_at "callWith ref") => `(tactic| (k_here; k_dflt (first | (refine' callWith_K ?k1 ?k2 ?_; (case k1 => k_asm); (case k2 => k_is); k_whole) | (refine' callWith_KW0 ?k1 ?k2 ?k3 ?_; (case k1 => k_asm); (case k2 => k_is); (case k3 => exact rfl); k_whole) | (refine' callWith_K0 ?k1 ?k2 ?_; (case k1 => k_in); (case k2 => k_is); k_whole))))
theorem strs_of_carried : ∀ {ys : List Value} {ns : List Int}, CarriedAll ys (ns.map fun k => PyData.str (pieceOf k)) → StrsAre ys (ns.map pieceOf)
  | _, [], h => by cases h; exact .nil
  | _, k :: ns, h => by
    cases h with
    | cons h1 h2 =>
      cases h1
      exact .cons _ _ (strs_of_carried h2)
theorem text_take (ns : List Int) : (ns.take 20).length ≤ 20 := by rw [List.length_take]; omega
theorem join_mapI (ns : List Int) : Txt.join (Str.ofString "") (ns.map pieceOf) = ⟨(textL ns).toArray⟩ := by
  rw [show (Str.ofString "" : Str) = ⟨#[]⟩ from rfl, join_flat]
  congr 2
  unfold flat textL
  rw [List.flatMap_def, List.map_map]
  rfl
theorem sum_mapI : ∀ ns : List Int, ((ns.map pieceOf).map (·.length)).sum ≤ 6 * ns.length
  | [] => Nat.le_refl 0
  | k :: ns => by
    have h1 := sum_mapI ns
    have h2 := (PL_ok _ (piece_in k)).1
    rw [Array.length_toList] at h2
    have h3 : (pieceOf k).length ≤ 6 := h2
    simp only [List.map_cons, List.sum_cons, List.length_cons]; omega
theorem sum_ok (ns : List Int) : (((ns.take 20).map pieceOf).map (·.length)).sum + ((ns.take 20).map pieceOf).length * (Str.ofString "").length ≤ 16777216 := by
  have h1 := sum_mapI (ns.take 20)
  have h2 := text_take ns
  rw [show (Str.ofString "" : Str).length = 0 from rfl, Nat.mul_zero]
  omega
set_option maxHeartbeats 2500000 in
theorem t : PySem.Challenge.rw_ci0013_01.Holds := Mine.hd (by
  k_go0
  (all_goals try k_fold)
  k_steps
  show LCg.CompSrc _ _ _ _ _ _ _ _ _ _ _ _ _ _
  refine LCg.CompSrc.ledger (by rfl) (by k_asm) (by k_asm) (by k_mem) (by size_fits) ?_
  intro g'
  refine kct_list pieceOf (by assumption) (fun k' t' I' oI' C' oC' D' m' ys' h' tk' E' hk' hC' hx' F' N' off' ne' _ => ?_) (fun ys' hy' _ => ?_)
  · obtain ⟨ne1, ne2, ne3⟩ := ne'
    (try simp only [LCg.Off3, and_true] at off')
    k_steps
    exact ⟨rfl, _, rfl⟩
  · have hy := strs_of_carried hy'
    intro D9 h9 tk9 F9 N9 o9 hl9
    dsimp only at hl9
    k_steps
    show wpAny _ _ _ _ _ _
    refine wpAny_toks ?_
    refine join_list (items := ys'.toArray) ⟨_, (N9 _ (.head _)).1, rfl, _, rfl⟩ hy ?_ ?_
    · exact sum_ok _
    intro t9 k9 hl8
    dsimp only at hl8
    rw [join_mapI]
    k_steps
    show wpAny _ _ _ _ _ _
    refine call_of (text_spec _ _ _) (by k_asm) (by k_asm) (by k_asm) (by k_asm) (by k_asm) (by first | exact rfl | assumption) (text_is _ (text_take _)) (by ktr_room) (by ktr_units) (by dsimp only; omega) (fun t8 h8 tk8 hl7 F8 N8 => ?_)
    k_steps)
end Mine
end

theorem PySem.Challenge.cw_ci0013_01_holds : PySem.Challenge.rw_ci0013_01.Holds :=
  Mine.t
