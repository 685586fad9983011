import PyProof.Rows.All
import Wide.All
import OpenK.AllK
import Wide.FinOn
import Lean
import PySem.Challenge.RW_in0045_01
set_option Elab.async false
set_option maxRecDepth 100000
set_option linter.all false
set_option compiler.extract_closed false
namespace Mine
noncomputable section
local macro_rules | `(tactic| walk_at $s:str) => `(tactic| k_extra $s)
theorem lt7 {k : Nat} (h : k < 7) : k = 0 ∨ k = 1 ∨ k = 2 ∨ k = 3 ∨ k = 4 ∨ k = 5 ∨ k = 6 := by omega
section
-- text G46
open PySem PySem.W PyProof.Rows PySem.Calls
set_option maxHeartbeats 8000000
structure Called (α : Type) where
  code : Code
  hd : Option Value
  grd : Bool
  live : List Value
  k : Result → Sem α
inductive Fin2 (α : Type) where
  | val (v : α)
  | call (c : Called α)
  | rest (t : Sem α)
structure Out (α : Type) where
  obs : List (Addr × Addr)
  news : List (Addr × Obj)
  tok : Tok
  val : Fin2 α
def pickL (old nw : List (Addr × Obj)) (i : Nat) : Option (Addr × Obj) := if i < 500 then nw.reverse[i]? else old[i - 500]?
def setL (nw : List (Addr × Obj)) (i : Nat) (p : Addr × Obj) : List (Addr × Obj) := nw.set (nw.length - 1 - i) p
def addO {α : Type} (x : Addr × Addr) : Option (Out α) → Option (Out α)
  | none => none
  | some o => some { o with obs := x :: o.obs }
def loadK {α : Type} (old nw : List (Addr × Obj)) (tk : Tok) (t : Sem α) (a : Addr) (f : Obj → List Nat → Option (Out α)) : List Nat → Option (Out α)
  | [] => some ⟨[], nw, tk, .rest t⟩
  | i :: sc => match pickL old nw i with
    | none => none
    | some p => addO (a, p.1) (f p.2 sc)
def updK {α : Type} (nw : List (Addr × Obj)) (tk : Tok) (t : Sem α) (a : Addr) (u : Obj → Obj) (f : List (Addr × Obj) → List Nat → Option (Out α)) : List Nat → Option (Out α)
  | [] => some ⟨[], nw, tk, .rest t⟩
  | i :: sc => match nw[nw.length - 1 - i]? with
    | none => none
    | some p => match (u p.2).isFreed with
      | true => none
      | false => addO (a, p.1) (f (setL nw i (p.1, u p.2)) sc)
def allocK {α : Type} (nw : List (Addr × Obj)) (tk : Tok) (t : Sem α) (o : Obj) (f : Addr → List Addr → Option (Out α)) : List Addr → Option (Out α)
  | [] => some ⟨[], nw, tk, .rest t⟩
  | a :: as => match o.isFreed with
    | true => none
    | false => f a as
noncomputable def go {α : Type} (g : Setting) (hd : Option Value) (old : List (Addr × Obj)) (t : Sem α) : List Nat → List Addr → List (Addr × Obj) → Tok → Option (Out α) :=
  Sem.rec (motive := fun _ => List Nat → List Addr → List (Addr × Obj) → Tok → Option (Out α))
    (fun a _ _ nw tk => some ⟨[], nw, tk, .val a⟩)
    (fun _ _ _ _ _ => none) (fun _ _ _ _ _ => none) (fun _ _ _ _ _ => none)
    (fun _ _ ih sc as nw tk => ih () sc as nw tk)
    (fun _ _ ih sc as nw tk => ih () sc as nw tk)
    (fun a q k ih sc as nw tk => loadK old nw tk (.load a q k) a (fun o sc => ih o sc as nw tk) sc)
    (fun a q f k ih sc as nw tk => updK nw tk (.update a q f k) a f (fun nw sc => ih () sc as nw tk) sc)
    (fun o k ih sc as nw tk => allocK nw tk (.alloc o k) o (fun a as => ih a sc as ((a, o) :: nw) tk) as)
    (fun _ _ _ _ _ _ _ => none)
    (fun _ _ ih sc as nw tk => ih () sc as nw tk)
    (fun _ _ _ _ _ _ _ => none)
    (fun _ ih sc as nw tk => ih tk sc as nw (tk + 1))
    (fun _ ih sc as nw tk => ih g sc as nw tk)
    (fun _ _ _ _ _ _ _ _ => none) (fun _ _ _ _ _ _ _ _ => none)
    (fun c hd gd lv k _ _ _ nw tk => some ⟨[], nw, tk, .call ⟨c, hd, gd, lv, k⟩⟩)
    (fun b _ ih sc as nw tk => match b with | true => none | false => ih hd sc as nw tk)
    (fun _ _ _ _ _ _ _ => none) (fun _ _ _ _ _ _ _ => none) (fun _ _ _ _ _ _ _ _ _ => none) (fun _ _ _ _ _ _ _ _ _ => none)
    (fun k _ _ _ nw tk => some ⟨[], nw, tk, .rest (.stack k)⟩) (fun _ _ _ _ _ _ _ => none) (fun _ _ _ _ _ _ => none) (fun _ _ _ _ _ _ _ _ _ _ => none) t
noncomputable def AllA : Nat → (List Addr → Prop) → Prop
  | 0, P => P []
  | n + 1, P => ∀ a, AllA n (fun l => P (a :: l))
theorem AllA.mono : ∀ {n : Nat} {P Q : List Addr → Prop}, (∀ l, P l → Q l) → AllA n P → AllA n Q
  | 0, _, _, h, x => h _ x
  | _ + 1, _, _, h, x => fun a => AllA.mono (fun _ => h _) (x a)
theorem AllA.some : ∀ {n : Nat} {P : List Addr → Prop}, AllA n P → ∃ l, P l
  | 0, _, x => ⟨_, x⟩
  | _ + 1, _, x => let ⟨l, h⟩ := AllA.some (x 0); ⟨_, h⟩
def ObsOk (l : List (Addr × Addr)) : Prop := ∀ p ∈ l, p.1 = p.2
def OldOk (h₀ : Heap) (chg old : List (Addr × Obj)) : Prop := ∀ p ∈ old, h₀.get? p.1 = some p.2 ∧ (X.hasCls p.2 || X.away chg p.1) = true
def EndOk {α : Type} (prog : Program) (w : World) (A : Around) (Q : α → Shared → Prop) (E : Value → Shared → Prop) (s : Shared) : Fin2 α → Prop
  | .val v => Q v s
  | .rest t => wpAny (model prog w) A t Q E s
  | .call c => wpAny (model prog w) A (.call c.code c.hd c.grd c.live Sem.pure) (fun r s' => wpAny (model prog w) A (c.k r) Q E s') E s
def Good {α : Type} (prog : Program) (w : World) (A : Around) (E : Value → Shared → Prop) (h₀ : Heap) (chg : List (Addr × Obj)) (s : Shared) (Q : α → Shared → Prop) (r : Option (Out α)) : Prop :=
  ∃ out, r = some out ∧ ObsOk out.obs ∧ ∀ h', X.Mem h₀ h' chg out.news → EndOk prog w A Q E { s with heap := h', toks := out.tok } out.val
section
variable {prog : Program} {w : World} {A : Around} {E : Value → Shared → Prop} {h₀ : Heap} {chg old : List (Addr × Obj)} {α : Type}
theorem set_back {l : List (Addr × Obj)} {i : Nat} {p : Addr × Obj} (h : l.reverse[i]? = some p) : p ∈ l := List.mem_reverse.mp (List.mem_of_getElem? h)
theorem call_split {c : Code} {h : Option Value} {g : Bool} {l : List Value} {k : Result → Sem α} {s : Shared} {Q : α → Shared → Prop}
    (x : wpAny (model prog w) A (.call c h g l Sem.pure) (fun r s' => wpAny (model prog w) A (k r) Q E s') E s) : wpAny (model prog w) A (.call c h g l k) Q E s := fun Γ p hΓ => by
  have y := x Γ p hΓ
  rw [Sem.wp_call] at y ⊢
  obtain ⟨r, s', a, b⟩ := y
  rw [Sem.wp_pure] at b
  exact ⟨r, s', a, b Γ p hΓ⟩
theorem go_ok (hold : OldOk h₀ chg old) : ∀ (t : Sem α) (n : Nat) (sc : List Nat) (nw : List (Addr × Obj)) (s : Shared) (Q : α → Shared → Prop), X.Mem h₀ s.heap chg nw →
    AllA n (fun as => Good prog w A E h₀ chg s Q (go ⟨prog, w.params⟩ A.handled old t sc as nw s.toks)) → wpAny (model prog w) A t Q E s := by
  intro t
  induction t with
  | pure a =>
    intro n sc nw s Q D H
    obtain ⟨l, out, e, _, q⟩ := H.some
    have e' : some (⟨[], nw, s.toks, .val a⟩ : Out α) = some out := e
    cases e'
    exact X.x_pure (q _ D)
  | raise e => intro n sc nw s Q D H; obtain ⟨l, out, e, _⟩ := H.some; cases (show none = some out from e)
  | unsupported e => intro n sc nw s Q D H; obtain ⟨l, out, e, _⟩ := H.some; cases (show none = some out from e)
  | finish e => intro n sc nw s Q D H; obtain ⟨l, out, e, _⟩ := H.some; cases (show none = some out from e)
  | rule _ k ih => intro n sc nw s Q D H; exact X.x_rule (ih () n sc nw s Q D H)
  | «at» _ k ih => intro n sc nw s Q D H; exact X.x_at (ih () n sc nw s Q D H)
  | point _ k ih => intro n sc nw s Q D H; exact X.x_point (ih () n sc nw s Q D H)
  | load a q k ih =>
    intro n sc nw s Q D H
    have H' : AllA n (fun as => Good prog w A E h₀ chg s Q (loadK old nw s.toks (.load a q k) a (fun o sc => go ⟨prog, w.params⟩ A.handled old (k o) sc as nw s.toks) sc)) := H
    clear H
    cases sc with
    | nil =>
      obtain ⟨_, out, e, _, q'⟩ := H'.some
      have e' : some (⟨[], nw, s.toks, .rest (.load a q k)⟩ : Out α) = some out := e
      cases e'
      exact q' _ D
    | cons i sc =>
      cases hp : pickL old nw i with
      | none => obtain ⟨l, out, e, _⟩ := H'.some; simp only [loadK, updK, hp] at e; cases e
      | some p =>
        simp only [loadK, updK, hp] at H'
        have hget : s.heap.get? p.1 = some p.2 := by
          unfold pickL at hp
          split at hp
          · exact (D.nw _ (set_back hp)).1
          · have z := hold _ (List.mem_of_getElem? hp)
            exact D.keep _ _ z.1 z.2
        have G : AllA n (fun as => a = p.1 ∧ Good prog w A E h₀ chg s Q (go ⟨prog, w.params⟩ A.handled old (k p.2) sc as nw s.toks)) := H'.mono fun l ⟨out, e, ob, q⟩ => by
          cases hg : go ⟨prog, w.params⟩ A.handled old (k p.2) sc l nw s.toks with
          | none => rw [hg] at e; cases e
          | some o =>
            rw [hg] at e
            cases e
            exact ⟨ob _ (.head _), o, rfl, fun z hz => ob z (.tail _ hz), q⟩
        obtain ⟨_, ea, _⟩ := G.some
        subst ea
        exact X.x_load hget (ih p.2 n sc nw s Q D (G.mono fun _ z => z.2))
  | update a q f k ih =>
    intro n sc nw s Q D H
    have H' : AllA n (fun as => Good prog w A E h₀ chg s Q (updK nw s.toks (.update a q f k) a f (fun nw sc => go ⟨prog, w.params⟩ A.handled old (k ()) sc as nw s.toks) sc)) := H
    clear H
    cases sc with
    | nil =>
      obtain ⟨_, out, e, _, q'⟩ := H'.some
      have e' : some (⟨[], nw, s.toks, .rest (.update a q f k)⟩ : Out α) = some out := e
      cases e'
      exact q' _ D
    | cons i sc =>
      cases hp : nw[nw.length - 1 - i]? with
      | none => obtain ⟨l, out, e, _⟩ := H'.some; simp only [loadK, updK, hp] at e; cases e
      | some p =>
        simp only [loadK, updK, hp] at H'
        cases hf : (f p.2).isFreed with
        | true => simp only [hf] at H'; obtain ⟨l, out, e, _⟩ := H'.some; cases e
        | false =>
          simp only [hf] at H'
          have G : AllA n (fun as => a = p.1 ∧ Good prog w A E h₀ chg s Q (go ⟨prog, w.params⟩ A.handled old (k ()) sc as (setL nw i (p.1, f p.2)) s.toks)) := H'.mono fun l ⟨out, e, ob, q⟩ => by
            cases hg : go ⟨prog, w.params⟩ A.handled old (k ()) sc l (setL nw i (p.1, f p.2)) s.toks with
            | none => rw [hg] at e; cases e
            | some o =>
              rw [hg] at e
              cases e
              exact ⟨ob _ (.head _), o, rfl, fun z hz => ob z (.tail _ hz), q⟩
          obtain ⟨_, ea, _⟩ := G.some
          subst ea
          have hg := D.at _ _ _ hp
          refine wpAny_bind (m := updatePart _ q f) (f := k) (wpAny_updatePart hg ?_)
          exact ih () n sc _ { s with heap := s.heap.update p.1 f } Q (D.update hp hf) (G.mono fun _ z => z.2)
  | alloc o k ih =>
    intro n sc nw s Q D H
    have H' : AllA n (fun as => Good prog w A E h₀ chg s Q (allocK nw s.toks (.alloc o k) o (fun a as => go ⟨prog, w.params⟩ A.handled old (k a) sc as ((a, o) :: nw) s.toks) as)) := H
    clear H
    cases n with
    | zero =>
      obtain ⟨out, e, _, q⟩ := H'
      have e' : some (⟨[], nw, s.toks, .rest (.alloc o k)⟩ : Out α) = some out := e
      cases e'
      exact q _ D
    | succ n =>
      cases hf : o.isFreed with
      | true => obtain ⟨l, out, e, _⟩ := (H' 0).some; simp only [allocK, hf] at e; cases e
      | false =>
        refine wpAny_bind (m := alloc o) (f := k) (wpAny_alloc ?_)
        have H2 := H' s.heap.objs.size
        simp only [allocK, hf] at H2
        exact ih _ n sc _ { s with heap := s.heap.push o } Q (D.alloc hf) H2
  | loadIfAlive a k ih => intro n sc nw s Q D H; obtain ⟨l, out, e, _⟩ := H.some; cases (show none = some out from e)
  | register a k ih => intro n sc nw s Q D H; obtain ⟨l, out, e, _⟩ := H.some; cases (show none = some out from e)
  | fresh k ih =>
    intro n sc nw s Q D H
    exact X.x_fresh (ih _ n sc nw { s with toks := s.toks + 1 } Q D H)
  | ask k ih => intro n sc nw s Q D H; exact X.x_ask (ih _ n sc nw s Q D H)
  | choose _ _ k ih => intro n sc nw s Q D H; obtain ⟨l, out, e, _⟩ := H.some; cases (show none = some out from e)
  | os _ _ k ih => intro n sc nw s Q D H; obtain ⟨l, out, e, _⟩ := H.some; cases (show none = some out from e)
  | call c h g l k ih =>
    intro n sc nw s Q D H
    obtain ⟨_, out, e, _, q⟩ := H.some
    have e' : some (⟨[], nw, s.toks, .call ⟨c, h, g, l, k⟩⟩ : Out α) = some out := e
    cases e'
    exact call_split (q _ D)
  | handled b k ih =>
    intro n sc nw s Q D H
    cases b with
    | true => obtain ⟨l, out, e, _⟩ := H.some; cases (show none = some out from e)
    | false => exact X.x_handled (ih _ n sc nw s Q D H)
  | newGen c k ih => intro n sc nw s Q D H; obtain ⟨l, out, e, _⟩ := H.some; cases (show none = some out from e)
  | genState c k ih => intro n sc nw s Q D H; obtain ⟨l, out, e, _⟩ := H.some; cases (show none = some out from e)
  | resume g r l k ih => intro n sc nw s Q D H; obtain ⟨l, out, e, _⟩ := H.some; cases (show none = some out from e)
  | yield v g l k ih => intro n sc nw s Q D H; obtain ⟨l, out, e, _⟩ := H.some; cases (show none = some out from e)
  | stack k ih =>
    intro n sc nw s Q D H
    obtain ⟨_, out, e, _, q⟩ := H.some
    have e' : some (⟨[], nw, s.toks, .rest (.stack k)⟩ : Out α) = some out := e
    cases e'
    exact q _ D
  | fork c k ih => intro n sc nw s Q D H; obtain ⟨l, out, e, _⟩ := H.some; cases (show none = some out from e)
  | thread k ih => intro n sc nw s Q D H; obtain ⟨l, out, e, _⟩ := H.some; cases (show none = some out from e)
  | await a f d l k ih => intro n sc nw s Q D H; obtain ⟨l, out, e, _⟩ := H.some; cases (show none = some out from e)
end
section
variable {α : Type}
def kOf (r : Option (Out α)) (x : Result) : Sem α := match r with
  | some ⟨_, _, _, .call c⟩ => c.k x
  | _ => .unsupported ""
def restOf (r : Option (Out α)) : Sem α := match r with
  | some ⟨_, _, _, .rest t⟩ => t
  | _ => .unsupported ""
def newsOf (r : Option (Out α)) : List (Addr × Obj) := match r with
  | some o => o.news
  | none => []
def tokOf (r : Option (Out α)) : Tok := match r with
  | some o => o.tok
  | none => 0
def obsOf (r : Option (Out α)) : List (Addr × Addr) := match r with
  | some o => o.obs
  | none => [(0, 1)]
def codeOf (r : Option (Out α)) : Option (Code × Option Value × Bool × List Value) := match r with
  | some ⟨_, _, _, .call c⟩ => some (c.code, c.hd, c.grd, c.live)
  | _ => none
def valOf (r : Option (Out α)) : Option α := match r with
  | some ⟨_, _, _, .val v⟩ => some v
  | _ => none
def kindOf (r : Option (Out α)) : Nat := match r with
  | some ⟨_, _, _, .val _⟩ => 1
  | some ⟨_, _, _, .call _⟩ => 2
  | some ⟨_, _, _, .rest _⟩ => 3
  | none => 0
end
section
variable {α : Type}
def contL (t : Sem α) (o : Obj) : Sem α := match t with
  | .load _ _ k => k o
  | t => t
def loadAt (t : Sem α) : Option Addr := match t with
  | .load a _ _ => some a
  | _ => none
def beqO (orc : Addr → Addr → Bool) : BEq Value := ⟨fun x y => match x, y with
  | .ref p, .ref q => orc p q
  | x, y => decide (x = y)⟩
theorem beqO_is (orc : Addr → Addr → Bool) (h : orc = fun p q => decide (p = q)) : (instBEqOfDecidableEq : BEq Value) = beqO orc := by
  subst h
  unfold beqO
  show (⟨_⟩ : BEq Value) = ⟨_⟩
  congr 1
  funext x y
  split
  · rename_i p q
    by_cases h : p = q
    · subst h; simp
    · simp [h]
  · rfl
section
variable {prog : Program} {w : World} {A : Around} {E : Value → Shared → Prop} {h₀ : Heap} {chg old : List (Addr × Obj)} {s : Shared} {Q : α → Shared → Prop} {nw : List (Addr × Obj)}
theorem ObsOk.of {r : List (Addr × Addr)} {l : List Addr} (h : r = l.map fun a => (a, a)) : ObsOk r := by
  subst h
  intro p hp
  obtain ⟨a, _, rfl⟩ := List.mem_map.mp hp
  rfl
theorem load_at {t : Sem α} {a : Addr} {o : Obj} (ht : loadAt t = some a) (ho : s.heap.get? a = some o) (h : wpAny (model prog w) A (contL t o) Q E s) : wpAny (model prog w) A t Q E s := by
  cases t <;> first | (cases (show none = some a from ht)) | skip
  cases (show some _ = some a from ht)
  exact X.x_load ho h
theorem go_call (hold : OldOk h₀ chg old) (D : X.Mem h₀ s.heap chg nw) (t : Sem α) (n : Nat) (sc : List Nat)
    (H : AllA n fun as => ∃ (l : List Addr) (c : Code × Option Value × Bool × List Value), obsOf (go ⟨prog, w.params⟩ A.handled old t sc as nw s.toks) = l.map (fun a => (a, a)) ∧ codeOf (go ⟨prog, w.params⟩ A.handled old t sc as nw s.toks) = some c ∧
      ∀ h', X.Mem h₀ h' chg (newsOf (go ⟨prog, w.params⟩ A.handled old t sc as nw s.toks)) →
        wpAny (model prog w) A (.call c.1 c.2.1 c.2.2.1 c.2.2.2 Sem.pure) (fun r s' => wpAny (model prog w) A (kOf (go ⟨prog, w.params⟩ A.handled old t sc as nw s.toks) r) Q E s') E
          { s with heap := h', toks := tokOf (go ⟨prog, w.params⟩ A.handled old t sc as nw s.toks) }) : wpAny (model prog w) A t Q E s := by
  refine go_ok hold t n sc nw s Q D (H.mono fun as ⟨l, c, e, ec, q⟩ => ?_)
  generalize go ⟨prog, w.params⟩ A.handled old t sc as nw s.toks = r at *
  cases r with
  | none => cases ec
  | some o =>
    obtain ⟨ob, nw', tk, v⟩ := o
    cases v with
    | val _ => cases ec
    | rest _ => cases ec
    | call c' =>
      cases ec
      exact ⟨_, rfl, ObsOk.of e, q⟩
theorem go_rest (hold : OldOk h₀ chg old) (D : X.Mem h₀ s.heap chg nw) (t : Sem α) (n : Nat) (sc : List Nat)
    (H : AllA n fun as => ∃ (l : List Addr), obsOf (go ⟨prog, w.params⟩ A.handled old t sc as nw s.toks) = l.map (fun a => (a, a)) ∧ kindOf (go ⟨prog, w.params⟩ A.handled old t sc as nw s.toks) = 3 ∧
      ∀ h', X.Mem h₀ h' chg (newsOf (go ⟨prog, w.params⟩ A.handled old t sc as nw s.toks)) →
        wpAny (model prog w) A (restOf (go ⟨prog, w.params⟩ A.handled old t sc as nw s.toks)) Q E { s with heap := h', toks := tokOf (go ⟨prog, w.params⟩ A.handled old t sc as nw s.toks) }) : wpAny (model prog w) A t Q E s := by
  refine go_ok hold t n sc nw s Q D (H.mono fun as ⟨l, e, ec, q⟩ => ?_)
  generalize go ⟨prog, w.params⟩ A.handled old t sc as nw s.toks = r at *
  cases r with
  | none => cases ec
  | some o =>
    obtain ⟨ob, nw', tk, v⟩ := o
    cases v with
    | val _ => cases ec
    | call _ => cases ec
    | rest c' => exact ⟨_, rfl, ObsOk.of e, q⟩
theorem go_val (hold : OldOk h₀ chg old) (D : X.Mem h₀ s.heap chg nw) (t : Sem α) (n : Nat) (sc : List Nat)
    (H : AllA n fun as => ∃ (l : List Addr) (v : α), obsOf (go ⟨prog, w.params⟩ A.handled old t sc as nw s.toks) = l.map (fun a => (a, a)) ∧ valOf (go ⟨prog, w.params⟩ A.handled old t sc as nw s.toks) = some v ∧
      ∀ h', X.Mem h₀ h' chg (newsOf (go ⟨prog, w.params⟩ A.handled old t sc as nw s.toks)) →
        Q v { s with heap := h', toks := tokOf (go ⟨prog, w.params⟩ A.handled old t sc as nw s.toks) }) : wpAny (model prog w) A t Q E s := by
  refine go_ok hold t n sc nw s Q D (H.mono fun as ⟨l, v, e, ec, q⟩ => ?_)
  generalize go ⟨prog, w.params⟩ A.handled old t sc as nw s.toks = r at *
  cases r with
  | none => cases ec
  | some o =>
    obtain ⟨ob, nw', tk, v'⟩ := o
    cases v' with
    | rest _ => cases ec
    | call _ => cases ec
    | val c' =>
      cases ec
      exact ⟨_, rfl, ObsOk.of e, q⟩
end
end
inductive StOk {α : Type} (r : Option (Out α)) (K : α → List (Addr × Obj) → Prop) : Prop
  | mk (l : List Addr) (v : α) (nw' : List (Addr × Obj)) (e1 : obsOf r = l.map fun a => (a, a)) (e2 : valOf r = some v) (e3 : newsOf r = nw') (k : K v nw') : StOk r K
inductive CaOk {α : Type} (r : Option (Out α)) (K : Code × Option Value × Bool × List Value → List (Addr × Obj) → (Result → Sem α) → Prop) : Prop
  | mk (l : List Addr) (c : Code × Option Value × Bool × List Value) (nw' : List (Addr × Obj)) (e1 : obsOf r = l.map fun a => (a, a)) (e2 : codeOf r = some c) (e3 : newsOf r = nw') (k : K c nw' (kOf r)) : CaOk r K
section
variable {α β : Type} {prog : Program} {w : World} {A : Around} {E : Value → Shared → Prop} {h₀ : Heap} {chg old nw : List (Addr × Obj)} {h : Heap} {gn : Array GenState} {dr : Drawn} {tk : Nat} {os : OsState}
/-- a statement: run the first tree to its value -/
theorem st {t : Sem α} {f : α → Sem β} {Q : β → Shared → Prop} (hold : OldOk h₀ chg old) (D : X.Mem h₀ h chg nw) (n : Nat) (sc : List Nat)
    (H : AllA n fun as => StOk (go ⟨prog, w.params⟩ A.handled old t sc as nw tk) fun v nw' => ∀ (h' : Heap) (tk' : Nat), X.Mem h₀ h' chg nw' → wpAny (model prog w) A (f v) Q E ⟨h', gn, dr, tk', os⟩) : wpAny (model prog w) A (t >>= f) Q E ⟨h, gn, dr, tk, os⟩ :=
  wpAny_bind (go_val (s := ⟨h, gn, dr, tk, os⟩) hold D t n sc (H.mono fun _ ⟨l, v, _, e, ev, en, q⟩ => ⟨l, v, e, ev, fun h' m => q h' _ (en ▸ m)⟩))
/-- a whole tree to its value -/
theorem stV {t : Sem α} {Q : α → Shared → Prop} (hold : OldOk h₀ chg old) (D : X.Mem h₀ h chg nw) (n : Nat) (sc : List Nat)
    (H : AllA n fun as => StOk (go ⟨prog, w.params⟩ A.handled old t sc as nw tk) fun v nw' => ∀ (h' : Heap) (tk' : Nat), X.Mem h₀ h' chg nw' → Q v ⟨h', gn, dr, tk', os⟩) : wpAny (model prog w) A t Q E ⟨h, gn, dr, tk, os⟩ :=
  go_val (s := ⟨h, gn, dr, tk, os⟩) hold D t n sc (H.mono fun _ ⟨l, v, _, e, ev, en, q⟩ => ⟨l, v, e, ev, fun h' m => q h' _ (en ▸ m)⟩)
/-- a tree to its first inner call -/
theorem stC {t : Sem α} {Q : α → Shared → Prop} (hold : OldOk h₀ chg old) (D : X.Mem h₀ h chg nw) (n : Nat) (sc : List Nat)
    (H : AllA n fun as => CaOk (go ⟨prog, w.params⟩ A.handled old t sc as nw tk) fun c nw' k => ∀ (h' : Heap) (tk' : Nat), X.Mem h₀ h' chg nw' →
        wpAny (model prog w) A (.call c.1 c.2.1 c.2.2.1 c.2.2.2 Sem.pure) (fun r s' => wpAny (model prog w) A (k r) Q E s') E ⟨h', gn, dr, tk', os⟩) : wpAny (model prog w) A t Q E ⟨h, gn, dr, tk, os⟩ :=
  go_call (s := ⟨h, gn, dr, tk, os⟩) hold D t n sc (H.mono fun _ ⟨l, c, _, e, ev, en, q⟩ => ⟨l, c, e, ev, fun h' m => q h' _ (en ▸ m)⟩)
end
end
section
-- text HD
open PySem PySem.W PyProof.Rows
set_option maxHeartbeats 0
/-- the objects that the top leaves behind, those that the law can come to -/
noncomputable def heap39 (P : Params) : Frag :=
 (nat_lit 2, Obj.mk Value.none none (Data.dict #[DictEntry.mk (PyData.keyHash P (Str.ofString "\x69mport.loaded._sre")) (Value.str (Str.ofString "\x69mport.loaded._sre") 183) (Value.bool true), DictEntry.mk (PyData.keyHash P (Str.ofString "class._frozen_importlib.BuiltinImporter")) (Value.str (Str.ofString "class._frozen_importlib.BuiltinImporter") 185) (Value.ref 14), DictEntry.mk (PyData.keyHash P (Str.ofString "watched.\x69mport")) (Value.str (Str.ofString "watched.\x69mport") 206) (Value.ref 18), DictEntry.mk (PyData.keyHash P (Str.ofString "class._frozen_importlib.ModuleSpec")) (Value.str (Str.ofString "class._frozen_importlib.ModuleSpec") 216) (Value.ref 22), DictEntry.mk (PyData.keyHash P (Str.ofString "sys.modules.booked-epoch")) (Value.str (Str.ofString "sys.modules.booked-epoch") 245) (Value.int 3 0), DictEntry.mk (PyData.keyHash P (Str.ofString "\x69mport.later-laid._sre")) (Value.str (Str.ofString "\x69mport.later-laid._sre") 270) (Value.bool true), DictEntry.mk (PyData.keyHash P (Str.ofString "watched.library")) (Value.str (Str.ofString "watched.library") 272) (Value.ref 27), DictEntry.mk (PyData.keyHash P (Str.ofString "watched.library-objects")) (Value.str (Str.ofString "watched.library-objects") 0) (Value.str (Str.ofString "\x0c") 0), DictEntry.mk (PyData.keyHash P (Str.ofString "watched.library-deep._sre")) (Value.str (Str.ofString "watched.library-deep._sre") 273) (Value.str (Str.ofString "\x04\x00\x00\x0b\x04\x00\x00\x0b\x04\x00\x00\x03\x04\x00\x00\x0b\x08\x04dict\x02") 0)] 9) #[]) ::
 (nat_lit 3, Obj.mk (Value.type "dict") none (Data.dict #[DictEntry.mk (PyData.keyHash P (Str.ofString "__name__")) (Value.str (Str.ofString "__name__") 165) (Value.str (Str.ofString "law_in0045_01") 564), DictEntry.mk (PyData.keyHash P (Str.ofString "__doc__")) (Value.str (Str.ofString "__doc__") 166) Value.none, DictEntry.mk (PyData.keyHash P (Str.ofString "__package__")) (Value.str (Str.ofString "__package__") 167) Value.none, DictEntry.mk (PyData.keyHash P (Str.ofString "__loader__")) (Value.str (Str.ofString "__loader__") 168) (Value.builtin "__main__.__loader__#opaque"), DictEntry.mk (PyData.keyHash P (Str.ofString "__spec__")) (Value.str (Str.ofString "__spec__") 169) Value.none, DictEntry.mk (PyData.keyHash P (Str.ofString "__annotations__")) (Value.str (Str.ofString "__annotations__") 170) (Value.ref 6), DictEntry.mk (PyData.keyHash P (Str.ofString "__builtins__")) (Value.str (Str.ofString "__builtins__") 171) (Value.ref 4), DictEntry.mk (PyData.keyHash P (Str.ofString "__file__")) (Value.str (Str.ofString "__file__") 173) (Value.str (Str.ofString "/claim/cut.py") 172), DictEntry.mk (PyData.keyHash P (Str.ofString "__cached__")) (Value.str (Str.ofString "__cached__") 174) Value.none, DictEntry.mk (PyData.keyHash P (Str.ofString "_sre")) (Value.str (Str.ofString "_sre") 275) (Value.ref 12), DictEntry.mk (PyData.keyHash P (Str.ofString "heappush")) (Value.str (Str.ofString "heappush") 291) (Value.ref 38), DictEntry.mk (PyData.keyHash P (Str.ofString "heappop")) (Value.str (Str.ofString "heappop") 300) (Value.ref 45), DictEntry.mk (PyData.keyHash P (Str.ofString "_siftdown")) (Value.str (Str.ofString "_siftdown") 312) (Value.ref 52), DictEntry.mk (PyData.keyHash P (Str.ofString "_siftup")) (Value.str (Str.ofString "_siftup") 325) (Value.ref 59), DictEntry.mk (PyData.keyHash P (Str.ofString "_twin_re_1")) (Value.str (Str.ofString "_twin_re_1") 363) (Value.ref 64), DictEntry.mk (PyData.keyHash P (Str.ofString "_special_chars_map")) (Value.str (Str.ofString "_special_chars_map") 511) (Value.ref 66), DictEntry.mk (PyData.keyHash P (Str.ofString "escape")) (Value.str (Str.ofString "escape") 518) (Value.ref 76), DictEntry.mk (PyData.keyHash P (Str.ofString "_translate")) (Value.str (Str.ofString "_translate") 539) (Value.ref 83), DictEntry.mk (PyData.keyHash P (Str.ofString "cmp_to_key")) (Value.str (Str.ofString "cmp_to_key") 550) (Value.ref 90), DictEntry.mk (PyData.keyHash P (Str.ofString "_initial_missing")) (Value.str (Str.ofString "_initial_missing") 551) (Value.ref 91), DictEntry.mk (PyData.keyHash P (Str.ofString "reduce")) (Value.str (Str.ofString "reduce") 563) (Value.ref 99), DictEntry.mk (PyData.keyHash P (Str.ofString "_law_pattern")) (Value.str (Str.ofString "_law_pattern") 571) (Value.ref 104), DictEntry.mk (PyData.keyHash P (Str.ofString "_law_close")) (Value.str (Str.ofString "_law_close") 581) (Value.ref 111), DictEntry.mk (PyData.keyHash P (Str.ofString "_law_step")) (Value.str (Str.ofString "_law_step") 587) (Value.ref 116), DictEntry.mk (PyData.keyHash P (Str.ofString "_law_takes")) (Value.str (Str.ofString "_law_takes") 596) (Value.ref 123), DictEntry.mk (PyData.keyHash P (Str.ofString "_law_compare")) (Value.str (Str.ofString "_law_compare") 604) (Value.ref 130), DictEntry.mk (PyData.keyHash P (Str.ofString "_law_off")) (Value.str (Str.ofString "_law_off") 610) (Value.ref 135), DictEntry.mk (PyData.keyHash P (Str.ofString "_law_fits")) (Value.str (Str.ofString "_law_fits") 618) (Value.ref 142), DictEntry.mk (PyData.keyHash P (Str.ofString "law")) (Value.str (Str.ofString "law") 624) (Value.ref 147)] 29) #[]) ::
 (nat_lit 6, Obj.mk (Value.type "dict") none (Data.dict #[]) #[]) ::
 (nat_lit 11, Obj.mk (Value.type "dict") none (Data.dict #[DictEntry.mk (PyData.keyHash P (Str.ofString "__name__")) (Value.str (Str.ofString "__name__") 247) (Value.str (Str.ofString "_sre") 246), DictEntry.mk (PyData.keyHash P (Str.ofString "__doc__")) (Value.str (Str.ofString "__doc__") 248) Value.none, DictEntry.mk (PyData.keyHash P (Str.ofString "__package__")) (Value.str (Str.ofString "__package__") 250) (Value.str (Str.ofString "") 249), DictEntry.mk (PyData.keyHash P (Str.ofString "__loader__")) (Value.str (Str.ofString "__loader__") 251) (Value.builtin "off-the-table:_sre.__loader__:shared#opaque"), DictEntry.mk (PyData.keyHash P (Str.ofString "__spec__")) (Value.str (Str.ofString "__spec__") 252) (Value.builtin "off-the-table:_sre.__spec__:shared#opaque"), DictEntry.mk (PyData.keyHash P (Str.ofString "compile")) (Value.str (Str.ofString "compile") 253) (Value.builtin "_sre.compile"), DictEntry.mk (PyData.keyHash P (Str.ofString "template")) (Value.str (Str.ofString "template") 254) (Value.builtin "off-the-table:_sre.template:shared#opaque"), DictEntry.mk (PyData.keyHash P (Str.ofString "getcodesize")) (Value.str (Str.ofString "getcodesize") 255) (Value.builtin "off-the-table:_sre.getcodesize:shared#opaque"), DictEntry.mk (PyData.keyHash P (Str.ofString "ascii_iscased")) (Value.str (Str.ofString "ascii_iscased") 256) (Value.builtin "off-the-table:_sre.ascii_iscased:shared#opaque"), DictEntry.mk (PyData.keyHash P (Str.ofString "unicode_iscased")) (Value.str (Str.ofString "unicode_iscased") 257) (Value.builtin "off-the-table:_sre.unicode_iscased:shared#opaque"), DictEntry.mk (PyData.keyHash P (Str.ofString "ascii_tolower")) (Value.str (Str.ofString "ascii_tolower") 258) (Value.builtin "off-the-table:_sre.ascii_tolower:shared#opaque"), DictEntry.mk (PyData.keyHash P (Str.ofString "unicode_tolower")) (Value.str (Str.ofString "unicode_tolower") 259) (Value.builtin "off-the-table:_sre.unicode_tolower:shared#opaque"), DictEntry.mk (PyData.keyHash P (Str.ofString "MAGIC")) (Value.str (Str.ofString "MAGIC") 261) (Value.int 20230612 260), DictEntry.mk (PyData.keyHash P (Str.ofString "CODESIZE")) (Value.str (Str.ofString "CODESIZE") 263) (Value.int 4 262), DictEntry.mk (PyData.keyHash P (Str.ofString "MAXREPEAT")) (Value.str (Str.ofString "MAXREPEAT") 265) (Value.int 4294967295 264), DictEntry.mk (PyData.keyHash P (Str.ofString "MAXGROUPS")) (Value.str (Str.ofString "MAXGROUPS") 267) (Value.int 1073741823 266), DictEntry.mk (PyData.keyHash P (Str.ofString "copyright")) (Value.str (Str.ofString "copyright") 269) (Value.str (Str.ofString " SRE 2.2.2 Copyright (c) 1997-2002 by Secret Labs AB ") 268)] 17) #[]) ::
 (nat_lit 12, Obj.mk (Value.type "module") (some 11) Data.plain #[]) ::
 (nat_lit 32, Obj.mk (Value.type "tuple") none (Data.seq #[]) #[]) ::
 (nat_lit 34, Obj.mk (Value.type "tuple") none (Data.seq #[Value.str (Str.ofString "heap") 287, Value.str (Str.ofString "item") 288]) #[]) ::
 (nat_lit 35, Obj.mk (Value.type "tuple") none (Data.seq #[]) #[]) ::
 (nat_lit 37, Obj.mk (Value.type "code") none (Data.fields #[Value.str (Str.ofString "heappush") 284, Value.str (Str.ofString "heappush") 285, Value.str (Str.ofString "/claim/cut.py") 286, Value.int 3 0, Value.int 2 0, Value.int 0 0, Value.int 0 0, Value.int 3 0, Value.ref 32, Value.bool true, Value.int 276 0, Value.ref 33, Value.none, Value.ref 34, Value.ref 35, Value.ref 36, Value.int 289 0, Value.int 3 0, Value.str (Str.ofString "/claim/cut.py") 290]) #[]) ::
 (nat_lit 38, Obj.mk (Value.type "function") none (Data.func (FuncData.mk (Str.ofString "heappush") (Str.ofString "heappush") (Arguments.mk [] [Arg.mk (Str.ofString "heap") none (Pos.mk 3 13 3 17), Arg.mk (Str.ofString "item") none (Pos.mk 3 19 3 23)] none [] [] none []) (FuncBody.stmts [Stmt.Expr (Expr.Call (Expr.Attribute (Expr.Name (Str.ofString "heap") (Pos.mk 4 4 4 8)) (Str.ofString "append") (Pos.mk 4 4 4 15)) [Expr.Name (Str.ofString "item") (Pos.mk 4 16 4 20)] [] (Pos.mk 4 4 4 21)) (Pos.mk 4 4 4 21), Stmt.Expr (Expr.Call (Expr.Name (Str.ofString "_siftdown") (Pos.mk 5 4 5 13)) [Expr.Name (Str.ofString "heap") (Pos.mk 5 14 5 18), Expr.Constant (Const.int 0) 0 (Pos.mk 5 20 5 21), Expr.BinOp (Expr.Call (Expr.Name (Str.ofString "len") (Pos.mk 5 23 5 26)) [Expr.Name (Str.ofString "heap") (Pos.mk 5 27 5 31)] [] (Pos.mk 5 23 5 32)) Operator.Sub (Expr.Constant (Const.int 1) 0 (Pos.mk 5 35 5 36)) (Pos.mk 5 23 5 36)] [] (Pos.mk 5 4 5 37)) (Pos.mk 5 4 5 37)]) (Scope.mk ScopeKind.function [(Str.ofString "heap", NameKind.local), (Str.ofString "item", NameKind.local), (Str.ofString "_siftdown", NameKind.globalImplicit), (Str.ofString "len", NameKind.globalImplicit)] false false []) 3 [] Value.none Value.none Value.none (Value.str (Str.ofString "cpy313.heapq") 282) none (Value.ref 37) Value.none 0)) #[]) ::
 (nat_lit 39, Obj.mk (Value.type "tuple") none (Data.seq #[]) #[]) ::
 (nat_lit 41, Obj.mk (Value.type "tuple") none (Data.seq #[Value.str (Str.ofString "heap") 295, Value.str (Str.ofString "lastelt") 296, Value.str (Str.ofString "returnitem") 297]) #[]) ::
 (nat_lit 42, Obj.mk (Value.type "tuple") none (Data.seq #[]) #[]) ::
 (nat_lit 44, Obj.mk (Value.type "code") none (Data.fields #[Value.str (Str.ofString "heappop") 292, Value.str (Str.ofString "heappop") 293, Value.str (Str.ofString "/claim/cut.py") 294, Value.int 6 0, Value.int 1 0, Value.int 0 0, Value.int 0 0, Value.int 3 0, Value.ref 39, Value.bool true, Value.int 276 0, Value.ref 40, Value.none, Value.ref 41, Value.ref 42, Value.ref 43, Value.int 298 0, Value.int 6 0, Value.str (Str.ofString "/claim/cut.py") 299]) #[]) ::
 (nat_lit 45, Obj.mk (Value.type "function") none (Data.func (FuncData.mk (Str.ofString "heappop") (Str.ofString "heappop") (Arguments.mk [] [Arg.mk (Str.ofString "heap") none (Pos.mk 6 12 6 16)] none [] [] none []) (FuncBody.stmts [Stmt.Assign [Expr.Name (Str.ofString "lastelt") (Pos.mk 7 4 7 11)] (Expr.Call (Expr.Attribute (Expr.Name (Str.ofString "heap") (Pos.mk 7 14 7 18)) (Str.ofString "pop") (Pos.mk 7 14 7 22)) [] [] (Pos.mk 7 14 7 24)) (Pos.mk 7 4 7 24), Stmt.If (Expr.Name (Str.ofString "heap") (Pos.mk 8 7 8 11)) [Stmt.Assign [Expr.Name (Str.ofString "returnitem") (Pos.mk 9 8 9 18)] (Expr.Subscript (Expr.Name (Str.ofString "heap") (Pos.mk 9 21 9 25)) (Expr.Constant (Const.int 0) 0 (Pos.mk 9 26 9 27)) (Pos.mk 9 21 9 28)) (Pos.mk 9 8 9 28), Stmt.Assign [Expr.Subscript (Expr.Name (Str.ofString "heap") (Pos.mk 10 8 10 12)) (Expr.Constant (Const.int 0) 0 (Pos.mk 10 13 10 14)) (Pos.mk 10 8 10 15)] (Expr.Name (Str.ofString "lastelt") (Pos.mk 10 18 10 25)) (Pos.mk 10 8 10 25), Stmt.Expr (Expr.Call (Expr.Name (Str.ofString "_siftup") (Pos.mk 11 8 11 15)) [Expr.Name (Str.ofString "heap") (Pos.mk 11 16 11 20), Expr.Constant (Const.int 0) 0 (Pos.mk 11 22 11 23)] [] (Pos.mk 11 8 11 24)) (Pos.mk 11 8 11 24), Stmt.Return (some (Expr.Name (Str.ofString "returnitem") (Pos.mk 12 15 12 25))) (Pos.mk 12 8 12 25)] [] (Pos.mk 8 4 12 25), Stmt.Return (some (Expr.Name (Str.ofString "lastelt") (Pos.mk 13 11 13 18))) (Pos.mk 13 4 13 18)]) (Scope.mk ScopeKind.function [(Str.ofString "heap", NameKind.local), (Str.ofString "lastelt", NameKind.local), (Str.ofString "returnitem", NameKind.local), (Str.ofString "_siftup", NameKind.globalImplicit)] false false []) 3 [] Value.none Value.none Value.none (Value.str (Str.ofString "cpy313.heapq") 282) none (Value.ref 44) Value.none 0)) #[]) ::
 (nat_lit 46, Obj.mk (Value.type "tuple") none (Data.seq #[]) #[]) ::
 (nat_lit 48, Obj.mk (Value.type "tuple") none (Data.seq #[Value.str (Str.ofString "heap") 304, Value.str (Str.ofString "startpos") 305, Value.str (Str.ofString "pos") 306, Value.str (Str.ofString "newitem") 307, Value.str (Str.ofString "parentpos") 308, Value.str (Str.ofString "parent") 309]) #[]) ::
 (nat_lit 49, Obj.mk (Value.type "tuple") none (Data.seq #[]) #[]) ::
 (nat_lit 51, Obj.mk (Value.type "code") none (Data.fields #[Value.str (Str.ofString "_siftdown") 301, Value.str (Str.ofString "_siftdown") 302, Value.str (Str.ofString "/claim/cut.py") 303, Value.int 14 0, Value.int 3 0, Value.int 0 0, Value.int 0 0, Value.int 3 0, Value.ref 46, Value.bool true, Value.int 276 0, Value.ref 47, Value.none, Value.ref 48, Value.ref 49, Value.ref 50, Value.int 310 0, Value.int 14 0, Value.str (Str.ofString "/claim/cut.py") 311]) #[]) ::
 (nat_lit 52, Obj.mk (Value.type "function") none (Data.func (FuncData.mk (Str.ofString "_siftdown") (Str.ofString "_siftdown") (Arguments.mk [] [Arg.mk (Str.ofString "heap") none (Pos.mk 14 14 14 18), Arg.mk (Str.ofString "startpos") none (Pos.mk 14 20 14 28), Arg.mk (Str.ofString "pos") none (Pos.mk 14 30 14 33)] none [] [] none []) (FuncBody.stmts [Stmt.Assign [Expr.Name (Str.ofString "newitem") (Pos.mk 15 4 15 11)] (Expr.Subscript (Expr.Name (Str.ofString "heap") (Pos.mk 15 14 15 18)) (Expr.Name (Str.ofString "pos") (Pos.mk 15 19 15 22)) (Pos.mk 15 14 15 23)) (Pos.mk 15 4 15 23), Stmt.While (Expr.Compare (Expr.Name (Str.ofString "pos") (Pos.mk 16 10 16 13)) [CmpOp.Gt] [Expr.Name (Str.ofString "startpos") (Pos.mk 16 16 16 24)] (Pos.mk 16 10 16 24)) [Stmt.Assign [Expr.Name (Str.ofString "parentpos") (Pos.mk 17 8 17 17)] (Expr.BinOp (Expr.BinOp (Expr.Name (Str.ofString "pos") (Pos.mk 17 20 17 23)) Operator.Sub (Expr.Constant (Const.int 1) 0 (Pos.mk 17 26 17 27)) (Pos.mk 17 20 17 27)) Operator.RShift (Expr.Constant (Const.int 1) 0 (Pos.mk 17 31 17 32)) (Pos.mk 17 20 17 32)) (Pos.mk 17 8 17 32), Stmt.Assign [Expr.Name (Str.ofString "parent") (Pos.mk 18 8 18 14)] (Expr.Subscript (Expr.Name (Str.ofString "heap") (Pos.mk 18 17 18 21)) (Expr.Name (Str.ofString "parentpos") (Pos.mk 18 22 18 31)) (Pos.mk 18 17 18 32)) (Pos.mk 18 8 18 32), Stmt.If (Expr.Compare (Expr.Name (Str.ofString "newitem") (Pos.mk 19 11 19 18)) [CmpOp.Lt] [Expr.Name (Str.ofString "parent") (Pos.mk 19 21 19 27)] (Pos.mk 19 11 19 27)) [Stmt.Assign [Expr.Subscript (Expr.Name (Str.ofString "heap") (Pos.mk 20 12 20 16)) (Expr.Name (Str.ofString "pos") (Pos.mk 20 17 20 20)) (Pos.mk 20 12 20 21)] (Expr.Name (Str.ofString "parent") (Pos.mk 20 24 20 30)) (Pos.mk 20 12 20 30), Stmt.Assign [Expr.Name (Str.ofString "pos") (Pos.mk 21 12 21 15)] (Expr.Name (Str.ofString "parentpos") (Pos.mk 21 18 21 27)) (Pos.mk 21 12 21 27), Stmt.Continue (Pos.mk 22 12 22 20)] [] (Pos.mk 19 8 22 20), Stmt.Break (Pos.mk 23 8 23 13)] [] (Pos.mk 16 4 23 13), Stmt.Assign [Expr.Subscript (Expr.Name (Str.ofString "heap") (Pos.mk 24 4 24 8)) (Expr.Name (Str.ofString "pos") (Pos.mk 24 9 24 12)) (Pos.mk 24 4 24 13)] (Expr.Name (Str.ofString "newitem") (Pos.mk 24 16 24 23)) (Pos.mk 24 4 24 23)]) (Scope.mk ScopeKind.function [(Str.ofString "heap", NameKind.local), (Str.ofString "startpos", NameKind.local), (Str.ofString "pos", NameKind.local), (Str.ofString "newitem", NameKind.local), (Str.ofString "parentpos", NameKind.local), (Str.ofString "parent", NameKind.local)] false false []) 3 [] Value.none Value.none Value.none (Value.str (Str.ofString "cpy313.heapq") 282) none (Value.ref 51) Value.none 0)) #[]) ::
 (nat_lit 53, Obj.mk (Value.type "tuple") none (Data.seq #[]) #[]) ::
 (nat_lit 55, Obj.mk (Value.type "tuple") none (Data.seq #[Value.str (Str.ofString "heap") 316, Value.str (Str.ofString "pos") 317, Value.str (Str.ofString "endpos") 318, Value.str (Str.ofString "startpos") 319, Value.str (Str.ofString "newitem") 320, Value.str (Str.ofString "childpos") 321, Value.str (Str.ofString "rightpos") 322]) #[]) ::
 (nat_lit 56, Obj.mk (Value.type "tuple") none (Data.seq #[]) #[]) ::
 (nat_lit 58, Obj.mk (Value.type "code") none (Data.fields #[Value.str (Str.ofString "_siftup") 313, Value.str (Str.ofString "_siftup") 314, Value.str (Str.ofString "/claim/cut.py") 315, Value.int 25 0, Value.int 2 0, Value.int 0 0, Value.int 0 0, Value.int 3 0, Value.ref 53, Value.bool true, Value.int 276 0, Value.ref 54, Value.none, Value.ref 55, Value.ref 56, Value.ref 57, Value.int 323 0, Value.int 25 0, Value.str (Str.ofString "/claim/cut.py") 324]) #[]) ::
 (nat_lit 59, Obj.mk (Value.type "function") none (Data.func (FuncData.mk (Str.ofString "_siftup") (Str.ofString "_siftup") (Arguments.mk [] [Arg.mk (Str.ofString "heap") none (Pos.mk 25 12 25 16), Arg.mk (Str.ofString "pos") none (Pos.mk 25 18 25 21)] none [] [] none []) (FuncBody.stmts [Stmt.Assign [Expr.Name (Str.ofString "endpos") (Pos.mk 26 4 26 10)] (Expr.Call (Expr.Name (Str.ofString "len") (Pos.mk 26 13 26 16)) [Expr.Name (Str.ofString "heap") (Pos.mk 26 17 26 21)] [] (Pos.mk 26 13 26 22)) (Pos.mk 26 4 26 22), Stmt.Assign [Expr.Name (Str.ofString "startpos") (Pos.mk 27 4 27 12)] (Expr.Name (Str.ofString "pos") (Pos.mk 27 15 27 18)) (Pos.mk 27 4 27 18), Stmt.Assign [Expr.Name (Str.ofString "newitem") (Pos.mk 28 4 28 11)] (Expr.Subscript (Expr.Name (Str.ofString "heap") (Pos.mk 28 14 28 18)) (Expr.Name (Str.ofString "pos") (Pos.mk 28 19 28 22)) (Pos.mk 28 14 28 23)) (Pos.mk 28 4 28 23), Stmt.Assign [Expr.Name (Str.ofString "childpos") (Pos.mk 29 4 29 12)] (Expr.BinOp (Expr.BinOp (Expr.Constant (Const.int 2) 0 (Pos.mk 29 15 29 16)) Operator.Mult (Expr.Name (Str.ofString "pos") (Pos.mk 29 19 29 22)) (Pos.mk 29 15 29 22)) Operator.Add (Expr.Constant (Const.int 1) 0 (Pos.mk 29 25 29 26)) (Pos.mk 29 15 29 26)) (Pos.mk 29 4 29 26), Stmt.While (Expr.Compare (Expr.Name (Str.ofString "childpos") (Pos.mk 30 10 30 18)) [CmpOp.Lt] [Expr.Name (Str.ofString "endpos") (Pos.mk 30 21 30 27)] (Pos.mk 30 10 30 27)) [Stmt.Assign [Expr.Name (Str.ofString "rightpos") (Pos.mk 31 8 31 16)] (Expr.BinOp (Expr.Name (Str.ofString "childpos") (Pos.mk 31 19 31 27)) Operator.Add (Expr.Constant (Const.int 1) 0 (Pos.mk 31 30 31 31)) (Pos.mk 31 19 31 31)) (Pos.mk 31 8 31 31), Stmt.If (Expr.BoolOp BoolOp.And [Expr.Compare (Expr.Name (Str.ofString "rightpos") (Pos.mk 32 11 32 19)) [CmpOp.Lt] [Expr.Name (Str.ofString "endpos") (Pos.mk 32 22 32 28)] (Pos.mk 32 11 32 28), Expr.UnaryOp UnaryOp.Not (Expr.Compare (Expr.Subscript (Expr.Name (Str.ofString "heap") (Pos.mk 32 38 32 42)) (Expr.Name (Str.ofString "childpos") (Pos.mk 32 43 32 51)) (Pos.mk 32 38 32 52)) [CmpOp.Lt] [Expr.Subscript (Expr.Name (Str.ofString "heap") (Pos.mk 32 55 32 59)) (Expr.Name (Str.ofString "rightpos") (Pos.mk 32 60 32 68)) (Pos.mk 32 55 32 69)] (Pos.mk 32 38 32 69)) (Pos.mk 32 34 32 69)] (Pos.mk 32 11 32 70)) [Stmt.Assign [Expr.Name (Str.ofString "childpos") (Pos.mk 33 12 33 20)] (Expr.Name (Str.ofString "rightpos") (Pos.mk 33 23 33 31)) (Pos.mk 33 12 33 31)] [] (Pos.mk 32 8 33 31), Stmt.Assign [Expr.Subscript (Expr.Name (Str.ofString "heap") (Pos.mk 34 8 34 12)) (Expr.Name (Str.ofString "pos") (Pos.mk 34 13 34 16)) (Pos.mk 34 8 34 17)] (Expr.Subscript (Expr.Name (Str.ofString "heap") (Pos.mk 34 20 34 24)) (Expr.Name (Str.ofString "childpos") (Pos.mk 34 25 34 33)) (Pos.mk 34 20 34 34)) (Pos.mk 34 8 34 34), Stmt.Assign [Expr.Name (Str.ofString "pos") (Pos.mk 35 8 35 11)] (Expr.Name (Str.ofString "childpos") (Pos.mk 35 14 35 22)) (Pos.mk 35 8 35 22), Stmt.Assign [Expr.Name (Str.ofString "childpos") (Pos.mk 36 8 36 16)] (Expr.BinOp (Expr.BinOp (Expr.Constant (Const.int 2) 0 (Pos.mk 36 19 36 20)) Operator.Mult (Expr.Name (Str.ofString "pos") (Pos.mk 36 23 36 26)) (Pos.mk 36 19 36 26)) Operator.Add (Expr.Constant (Const.int 1) 0 (Pos.mk 36 29 36 30)) (Pos.mk 36 19 36 30)) (Pos.mk 36 8 36 30)] [] (Pos.mk 30 4 36 30), Stmt.Assign [Expr.Subscript (Expr.Name (Str.ofString "heap") (Pos.mk 37 4 37 8)) (Expr.Name (Str.ofString "pos") (Pos.mk 37 9 37 12)) (Pos.mk 37 4 37 13)] (Expr.Name (Str.ofString "newitem") (Pos.mk 37 16 37 23)) (Pos.mk 37 4 37 23), Stmt.Expr (Expr.Call (Expr.Name (Str.ofString "_siftdown") (Pos.mk 38 4 38 13)) [Expr.Name (Str.ofString "heap") (Pos.mk 38 14 38 18), Expr.Name (Str.ofString "startpos") (Pos.mk 38 20 38 28), Expr.Name (Str.ofString "pos") (Pos.mk 38 30 38 33)] [] (Pos.mk 38 4 38 34)) (Pos.mk 38 4 38 34)]) (Scope.mk ScopeKind.function [(Str.ofString "heap", NameKind.local), (Str.ofString "pos", NameKind.local), (Str.ofString "endpos", NameKind.local), (Str.ofString "startpos", NameKind.local), (Str.ofString "newitem", NameKind.local), (Str.ofString "childpos", NameKind.local), (Str.ofString "rightpos", NameKind.local), (Str.ofString "len", NameKind.globalImplicit), (Str.ofString "_siftdown", NameKind.globalImplicit)] false false []) 3 [] Value.none Value.none Value.none (Value.str (Str.ofString "cpy313.heapq") 282) none (Value.ref 58) Value.none 0)) #[]) ::
 (nat_lit 63, Obj.mk (Value.type "tuple") none (Data.seq #[Value.int 14 0, Value.int 14 0, Value.int 4 0, Value.int 1 0, Value.int 1 0, Value.int 9 0, Value.int 0 0, Value.int 64 0, Value.int 0 0, Value.int 1342177280 0, Value.int 0 0, Value.int 0 0, Value.int 0 0, Value.int 0 0, Value.int 0 0, Value.int 17 0, Value.int 0 0, Value.int 13 0, Value.int 11 0, Value.int 9 0, Value.int 0 0, Value.int 64 0, Value.int 0 0, Value.int 1342177280 0, Value.int 0 0, Value.int 0 0, Value.int 0 0, Value.int 0 0, Value.int 0 0, Value.int 17 0, Value.int 1 0, Value.int 1 0]) #[]) ::
 (nat_lit 64, Obj.mk (Value.type "re.Pattern") none (Data.fields #[Value.str (Str.ofString "([&~|])") 327, Value.int 32 362, Value.int 1 0, Value.none, Value.none, Value.ref 63, Value.int 0 0]) #[]) ::
 (nat_lit 66, Obj.mk (Value.type "dict") none (Data.dict #[DictEntry.mk 40 (Value.int 40 367) (Value.str (Str.ofString "\\(") 371), DictEntry.mk 41 (Value.int 41 373) (Value.str (Str.ofString "\\)") 377), DictEntry.mk 91 (Value.int 91 379) (Value.str (Str.ofString "\\[") 383), DictEntry.mk 93 (Value.int 93 385) (Value.str (Str.ofString "\\]") 389), DictEntry.mk 123 (Value.int 123 391) (Value.str (Str.ofString "\\{") 395), DictEntry.mk 125 (Value.int 125 397) (Value.str (Str.ofString "\\}") 401), DictEntry.mk 63 (Value.int 63 403) (Value.str (Str.ofString "\\?") 407), DictEntry.mk 42 (Value.int 42 409) (Value.str (Str.ofString "\\*") 413), DictEntry.mk 43 (Value.int 43 415) (Value.str (Str.ofString "\\+") 419), DictEntry.mk 45 (Value.int 45 421) (Value.str (Str.ofString "\\-") 425), DictEntry.mk 124 (Value.int 124 427) (Value.str (Str.ofString "\\|") 431), DictEntry.mk 94 (Value.int 94 433) (Value.str (Str.ofString "\\^") 437), DictEntry.mk 36 (Value.int 36 439) (Value.str (Str.ofString "\\$") 443), DictEntry.mk 92 (Value.int 92 445) (Value.str (Str.ofString "\\\\") 449), DictEntry.mk 46 (Value.int 46 451) (Value.str (Str.ofString "\\.") 455), DictEntry.mk 38 (Value.int 38 457) (Value.str (Str.ofString "\\&") 461), DictEntry.mk 126 (Value.int 126 463) (Value.str (Str.ofString "\\~") 467), DictEntry.mk 35 (Value.int 35 469) (Value.str (Str.ofString "\\#") 473), DictEntry.mk 32 (Value.int 32 475) (Value.str (Str.ofString "\\ ") 479), DictEntry.mk 9 (Value.int 9 481) (Value.str (Str.ofString "\\\t") 485), DictEntry.mk 10 (Value.int 10 487) (Value.str (Str.ofString "\\\n") 491), DictEntry.mk 13 (Value.int 13 493) (Value.str (Str.ofString "\\\x0d") 497), DictEntry.mk 11 (Value.int 11 499) (Value.str (Str.ofString "\\\x0b") 503), DictEntry.mk 12 (Value.int 12 505) (Value.str (Str.ofString "\\\x0c") 509)] 24) #[]) ::
 (nat_lit 70, Obj.mk (Value.type "tuple") none (Data.seq #[]) #[]) ::
 (nat_lit 72, Obj.mk (Value.type "tuple") none (Data.seq #[Value.str (Str.ofString "pattern") 515]) #[]) ::
 (nat_lit 73, Obj.mk (Value.type "tuple") none (Data.seq #[]) #[]) ::
 (nat_lit 75, Obj.mk (Value.type "code") none (Data.fields #[Value.str (Str.ofString "escape") 512, Value.str (Str.ofString "escape") 513, Value.str (Str.ofString "/claim/cut.py") 514, Value.int 42 0, Value.int 1 0, Value.int 0 0, Value.int 0 0, Value.int 3 0, Value.ref 70, Value.bool true, Value.int 276 0, Value.ref 71, Value.none, Value.ref 72, Value.ref 73, Value.ref 74, Value.int 516 0, Value.int 42 0, Value.str (Str.ofString "/claim/cut.py") 517]) #[]) ::
 (nat_lit 76, Obj.mk (Value.type "function") none (Data.func (FuncData.mk (Str.ofString "escape") (Str.ofString "escape") (Arguments.mk [] [Arg.mk (Str.ofString "pattern") none (Pos.mk 42 11 42 18)] none [] [] none []) (FuncBody.stmts [Stmt.If (Expr.Call (Expr.Name (Str.ofString "isinstance") (Pos.mk 43 7 43 17)) [Expr.Name (Str.ofString "pattern") (Pos.mk 43 18 43 25), Expr.Name (Str.ofString "str") (Pos.mk 43 27 43 30)] [] (Pos.mk 43 7 43 31)) [Stmt.Return (some (Expr.Call (Expr.Attribute (Expr.Name (Str.ofString "pattern") (Pos.mk 44 15 44 22)) (Str.ofString "translate") (Pos.mk 44 15 44 32)) [Expr.Name (Str.ofString "_special_chars_map") (Pos.mk 44 33 44 51)] [] (Pos.mk 44 15 44 52))) (Pos.mk 44 8 44 52)] [Stmt.Assign [Expr.Name (Str.ofString "pattern") (Pos.mk 46 8 46 15)] (Expr.Call (Expr.Name (Str.ofString "str") (Pos.mk 46 18 46 21)) [Expr.Name (Str.ofString "pattern") (Pos.mk 46 22 46 29), Expr.Constant (Const.str (Str.ofString "latin1")) 0 (Pos.mk 46 31 46 39)] [] (Pos.mk 46 18 46 40)) (Pos.mk 46 8 46 40), Stmt.Return (some (Expr.Call (Expr.Attribute (Expr.Call (Expr.Attribute (Expr.Name (Str.ofString "pattern") (Pos.mk 47 15 47 22)) (Str.ofString "translate") (Pos.mk 47 15 47 32)) [Expr.Name (Str.ofString "_special_chars_map") (Pos.mk 47 33 47 51)] [] (Pos.mk 47 15 47 52)) (Str.ofString "encode") (Pos.mk 47 15 47 59)) [Expr.Constant (Const.str (Str.ofString "latin1")) 0 (Pos.mk 47 60 47 68)] [] (Pos.mk 47 15 47 69))) (Pos.mk 47 8 47 69)] (Pos.mk 43 4 47 69)]) (Scope.mk ScopeKind.function [(Str.ofString "pattern", NameKind.local), (Str.ofString "isinstance", NameKind.globalImplicit), (Str.ofString "str", NameKind.globalImplicit), (Str.ofString "_special_chars_map", NameKind.globalImplicit)] false false []) 3 [] Value.none Value.none Value.none (Value.str (Str.ofString "re") 364) none (Value.ref 75) Value.none 0)) #[]) ::
 (nat_lit 77, Obj.mk (Value.type "tuple") none (Data.seq #[]) #[]) ::
 (nat_lit 79, Obj.mk (Value.type "tuple") none (Data.seq #[Value.str (Str.ofString "pat") 524, Value.str (Str.ofString "STAR") 525, Value.str (Str.ofString "QUESTION_MARK") 526, Value.str (Str.ofString "res") 527, Value.str (Str.ofString "add") 528, Value.str (Str.ofString "i") 529, Value.str (Str.ofString "n") 530, Value.str (Str.ofString "c") 531, Value.str (Str.ofString "j") 532, Value.str (Str.ofString "stuff") 533, Value.str (Str.ofString "chunks") 534, Value.str (Str.ofString "k") 535, Value.str (Str.ofString "chunk") 536]) #[]) ::
 (nat_lit 80, Obj.mk (Value.type "tuple") none (Data.seq #[]) #[]) ::
 (nat_lit 82, Obj.mk (Value.type "code") none (Data.fields #[Value.str (Str.ofString "_translate") 521, Value.str (Str.ofString "_translate") 522, Value.str (Str.ofString "/claim/cut.py") 523, Value.int 49 0, Value.int 3 0, Value.int 0 0, Value.int 0 0, Value.int 3 0, Value.ref 77, Value.bool true, Value.int 276 0, Value.ref 78, Value.none, Value.ref 79, Value.ref 80, Value.ref 81, Value.int 537 0, Value.int 49 0, Value.str (Str.ofString "/claim/cut.py") 538]) #[]) ::
 (nat_lit 83, Obj.mk (Value.type "function") none (Data.func (FuncData.mk (Str.ofString "_translate") (Str.ofString "_translate") (Arguments.mk [] [Arg.mk (Str.ofString "pat") none (Pos.mk 49 15 49 18), Arg.mk (Str.ofString "STAR") none (Pos.mk 49 20 49 24), Arg.mk (Str.ofString "QUESTION_MARK") none (Pos.mk 49 26 49 39)] none [] [] none []) (FuncBody.stmts [Stmt.Assign [Expr.Name (Str.ofString "res") (Pos.mk 50 4 50 7)] (Expr.List [] (Pos.mk 50 10 50 12)) (Pos.mk 50 4 50 12), Stmt.Assign [Expr.Name (Str.ofString "add") (Pos.mk 51 4 51 7)] (Expr.Attribute (Expr.Name (Str.ofString "res") (Pos.mk 51 10 51 13)) (Str.ofString "append") (Pos.mk 51 10 51 20)) (Pos.mk 51 4 51 20), Stmt.Assign [Expr.Tuple [Expr.Name (Str.ofString "i") (Pos.mk 52 4 52 5), Expr.Name (Str.ofString "n") (Pos.mk 52 7 52 8)] 0 (Pos.mk 52 4 52 8)] (Expr.Tuple [Expr.Constant (Const.int 0) 0 (Pos.mk 52 12 52 13), Expr.Call (Expr.Name (Str.ofString "len") (Pos.mk 52 15 52 18)) [Expr.Name (Str.ofString "pat") (Pos.mk 52 19 52 22)] [] (Pos.mk 52 15 52 23)] 0 (Pos.mk 52 11 52 24)) (Pos.mk 52 4 52 24), Stmt.While (Expr.Compare (Expr.Name (Str.ofString "i") (Pos.mk 53 10 53 11)) [CmpOp.Lt] [Expr.Name (Str.ofString "n") (Pos.mk 53 14 53 15)] (Pos.mk 53 10 53 15)) [Stmt.Assign [Expr.Name (Str.ofString "c") (Pos.mk 54 8 54 9)] (Expr.Subscript (Expr.Name (Str.ofString "pat") (Pos.mk 54 12 54 15)) (Expr.Name (Str.ofString "i") (Pos.mk 54 16 54 17)) (Pos.mk 54 12 54 18)) (Pos.mk 54 8 54 18), Stmt.Assign [Expr.Name (Str.ofString "i") (Pos.mk 55 8 55 9)] (Expr.BinOp (Expr.Name (Str.ofString "i") (Pos.mk 55 12 55 13)) Operator.Add (Expr.Constant (Const.int 1) 0 (Pos.mk 55 16 55 17)) (Pos.mk 55 12 55 17)) (Pos.mk 55 8 55 17), Stmt.If (Expr.Compare (Expr.Name (Str.ofString "c") (Pos.mk 56 11 56 12)) [CmpOp.Eq] [Expr.Constant (Const.str (Str.ofString "*")) 0 (Pos.mk 56 16 56 19)] (Pos.mk 56 11 56 19)) [Stmt.If (Expr.BoolOp BoolOp.Or [Expr.UnaryOp UnaryOp.Not (Expr.Name (Str.ofString "res") (Pos.mk 57 19 57 22)) (Pos.mk 57 15 57 22), Expr.Compare (Expr.Subscript (Expr.Name (Str.ofString "res") (Pos.mk 57 26 57 29)) (Expr.UnaryOp UnaryOp.USub (Expr.Constant (Const.int 1) 0 (Pos.mk 57 31 57 32)) (Pos.mk 57 30 57 32)) (Pos.mk 57 26 57 33)) [CmpOp.IsNot] [Expr.Name (Str.ofString "STAR") (Pos.mk 57 41 57 45)] (Pos.mk 57 26 57 45)] (Pos.mk 57 15 57 45)) [Stmt.Expr (Expr.Call (Expr.Name (Str.ofString "add") (Pos.mk 58 16 58 19)) [Expr.Name (Str.ofString "STAR") (Pos.mk 58 20 58 24)] [] (Pos.mk 58 16 58 25)) (Pos.mk 58 16 58 25)] [] (Pos.mk 57 12 58 25)] [Stmt.If (Expr.Compare (Expr.Name (Str.ofString "c") (Pos.mk 59 13 59 14)) [CmpOp.Eq] [Expr.Constant (Const.str (Str.ofString "?")) 0 (Pos.mk 59 18 59 21)] (Pos.mk 59 13 59 21)) [Stmt.Expr (Expr.Call (Expr.Name (Str.ofString "add") (Pos.mk 60 12 60 15)) [Expr.Name (Str.ofString "QUESTION_MARK") (Pos.mk 60 16 60 29)] [] (Pos.mk 60 12 60 30)) (Pos.mk 60 12 60 30)] [Stmt.If (Expr.Compare (Expr.Name (Str.ofString "c") (Pos.mk 61 13 61 14)) [CmpOp.Eq] [Expr.Constant (Const.str (Str.ofString "[")) 0 (Pos.mk 61 18 61 21)] (Pos.mk 61 13 61 21)) [Stmt.Assign [Expr.Name (Str.ofString "j") (Pos.mk 62 12 62 13)] (Expr.Name (Str.ofString "i") (Pos.mk 62 16 62 17)) (Pos.mk 62 12 62 17), Stmt.If (Expr.BoolOp BoolOp.And [Expr.Compare (Expr.Name (Str.ofString "j") (Pos.mk 63 15 63 16)) [CmpOp.Lt] [Expr.Name (Str.ofString "n") (Pos.mk 63 19 63 20)] (Pos.mk 63 15 63 20), Expr.Compare (Expr.Subscript (Expr.Name (Str.ofString "pat") (Pos.mk 63 25 63 28)) (Expr.Name (Str.ofString "j") (Pos.mk 63 29 63 30)) (Pos.mk 63 25 63 31)) [CmpOp.Eq] [Expr.Constant (Const.str (Str.ofString "!")) 0 (Pos.mk 63 35 63 38)] (Pos.mk 63 25 63 38)] (Pos.mk 63 15 63 38)) [Stmt.Assign [Expr.Name (Str.ofString "j") (Pos.mk 64 16 64 17)] (Expr.BinOp (Expr.Name (Str.ofString "j") (Pos.mk 64 20 64 21)) Operator.Add (Expr.Constant (Const.int 1) 0 (Pos.mk 64 24 64 25)) (Pos.mk 64 20 64 25)) (Pos.mk 64 16 64 25)] [] (Pos.mk 63 12 64 25), Stmt.If (Expr.BoolOp BoolOp.And [Expr.Compare (Expr.Name (Str.ofString "j") (Pos.mk 65 15 65 16)) [CmpOp.Lt] [Expr.Name (Str.ofString "n") (Pos.mk 65 19 65 20)] (Pos.mk 65 15 65 20), Expr.Compare (Expr.Subscript (Expr.Name (Str.ofString "pat") (Pos.mk 65 25 65 28)) (Expr.Name (Str.ofString "j") (Pos.mk 65 29 65 30)) (Pos.mk 65 25 65 31)) [CmpOp.Eq] [Expr.Constant (Const.str (Str.ofString "]")) 0 (Pos.mk 65 35 65 38)] (Pos.mk 65 25 65 38)] (Pos.mk 65 15 65 38)) [Stmt.Assign [Expr.Name (Str.ofString "j") (Pos.mk 66 16 66 17)] (Expr.BinOp (Expr.Name (Str.ofString "j") (Pos.mk 66 20 66 21)) Operator.Add (Expr.Constant (Const.int 1) 0 (Pos.mk 66 24 66 25)) (Pos.mk 66 20 66 25)) (Pos.mk 66 16 66 25)] [] (Pos.mk 65 12 66 25), Stmt.While (Expr.BoolOp BoolOp.And [Expr.Compare (Expr.Name (Str.ofString "j") (Pos.mk 67 18 67 19)) [CmpOp.Lt] [Expr.Name (Str.ofString "n") (Pos.mk 67 22 67 23)] (Pos.mk 67 18 67 23), Expr.Compare (Expr.Subscript (Expr.Name (Str.ofString "pat") (Pos.mk 67 28 67 31)) (Expr.Name (Str.ofString "j") (Pos.mk 67 32 67 33)) (Pos.mk 67 28 67 34)) [CmpOp.NotEq] [Expr.Constant (Const.str (Str.ofString "]")) 0 (Pos.mk 67 38 67 41)] (Pos.mk 67 28 67 41)] (Pos.mk 67 18 67 41)) [Stmt.Assign [Expr.Name (Str.ofString "j") (Pos.mk 68 16 68 17)] (Expr.BinOp (Expr.Name (Str.ofString "j") (Pos.mk 68 20 68 21)) Operator.Add (Expr.Constant (Const.int 1) 0 (Pos.mk 68 24 68 25)) (Pos.mk 68 20 68 25)) (Pos.mk 68 16 68 25)] [] (Pos.mk 67 12 68 25), Stmt.If (Expr.Compare (Expr.Name (Str.ofString "j") (Pos.mk 69 15 69 16)) [CmpOp.GtE] [Expr.Name (Str.ofString "n") (Pos.mk 69 20 69 21)] (Pos.mk 69 15 69 21)) [Stmt.Expr (Expr.Call (Expr.Name (Str.ofString "add") (Pos.mk 70 16 70 19)) [Expr.Constant (Const.str (Str.ofString "\\[")) 0 (Pos.mk 70 20 70 25)] [] (Pos.mk 70 16 70 26)) (Pos.mk 70 16 70 26)] [Stmt.Assign [Expr.Name (Str.ofString "stuff") (Pos.mk 72 16 72 21)] (Expr.Subscript (Expr.Name (Str.ofString "pat") (Pos.mk 72 24 72 27)) (Expr.Slice (some (Expr.Name (Str.ofString "i") (Pos.mk 72 28 72 29))) (some (Expr.Name (Str.ofString "j") (Pos.mk 72 30 72 31))) none (Pos.mk 72 28 72 31)) (Pos.mk 72 24 72 32)) (Pos.mk 72 16 72 32), Stmt.If (Expr.Compare (Expr.Constant (Const.str (Str.ofString "-")) 0 (Pos.mk 73 19 73 22)) [CmpOp.NotIn] [Expr.Name (Str.ofString "stuff") (Pos.mk 73 30 73 35)] (Pos.mk 73 19 73 35)) [Stmt.Assign [Expr.Name (Str.ofString "stuff") (Pos.mk 74 20 74 25)] (Expr.Call (Expr.Attribute (Expr.Name (Str.ofString "stuff") (Pos.mk 74 28 74 33)) (Str.ofString "replace") (Pos.mk 74 28 74 41)) [Expr.Constant (Const.str (Str.ofString "\\")) 0 (Pos.mk 74 42 74 46), Expr.Constant (Const.str (Str.ofString "\\\\")) 0 (Pos.mk 74 48 74 54)] [] (Pos.mk 74 28 74 55)) (Pos.mk 74 20 74 55)] [Stmt.Assign [Expr.Name (Str.ofString "chunks") (Pos.mk 76 20 76 26)] (Expr.List [] (Pos.mk 76 29 76 31)) (Pos.mk 76 20 76 31), Stmt.Assign [Expr.Name (Str.ofString "k") (Pos.mk 77 20 77 21)] (Expr.IfExp (Expr.Compare (Expr.Subscript (Expr.Name (Str.ofString "pat") (Pos.mk 77 33 77 36)) (Expr.Name (Str.ofString "i") (Pos.mk 77 37 77 38)) (Pos.mk 77 33 77 39)) [CmpOp.Eq] [Expr.Constant (Const.str (Str.ofString "!")) 0 (Pos.mk 77 43 77 46)] (Pos.mk 77 33 77 46)) (Expr.BinOp (Expr.Name (Str.ofString "i") (Pos.mk 77 24 77 25)) Operator.Add (Expr.Constant (Const.int 2) 0 (Pos.mk 77 28 77 29)) (Pos.mk 77 24 77 29)) (Expr.BinOp (Expr.Name (Str.ofString "i") (Pos.mk 77 52 77 53)) Operator.Add (Expr.Constant (Const.int 1) 0 (Pos.mk 77 56 77 57)) (Pos.mk 77 52 77 57)) (Pos.mk 77 24 77 57)) (Pos.mk 77 20 77 57), Stmt.While (Expr.Constant (Const.bool true) 0 (Pos.mk 78 26 78 30)) [Stmt.Assign [Expr.Name (Str.ofString "k") (Pos.mk 79 24 79 25)] (Expr.Call (Expr.Attribute (Expr.Name (Str.ofString "pat") (Pos.mk 79 28 79 31)) (Str.ofString "find") (Pos.mk 79 28 79 36)) [Expr.Constant (Const.str (Str.ofString "-")) 0 (Pos.mk 79 37 79 40), Expr.Name (Str.ofString "k") (Pos.mk 79 42 79 43), Expr.Name (Str.ofString "j") (Pos.mk 79 45 79 46)] [] (Pos.mk 79 28 79 47)) (Pos.mk 79 24 79 47), Stmt.If (Expr.Compare (Expr.Name (Str.ofString "k") (Pos.mk 80 27 80 28)) [CmpOp.Lt] [Expr.Constant (Const.int 0) 0 (Pos.mk 80 31 80 32)] (Pos.mk 80 27 80 32)) [Stmt.Break (Pos.mk 81 28 81 33)] [] (Pos.mk 80 24 81 33), Stmt.Expr (Expr.Call (Expr.Attribute (Expr.Name (Str.ofString "chunks") (Pos.mk 82 24 82 30)) (Str.ofString "append") (Pos.mk 82 24 82 37)) [Expr.Subscript (Expr.Name (Str.ofString "pat") (Pos.mk 82 38 82 41)) (Expr.Slice (some (Expr.Name (Str.ofString "i") (Pos.mk 82 42 82 43))) (some (Expr.Name (Str.ofString "k") (Pos.mk 82 44 82 45))) none (Pos.mk 82 42 82 45)) (Pos.mk 82 38 82 46)] [] (Pos.mk 82 24 82 47)) (Pos.mk 82 24 82 47), Stmt.Assign [Expr.Name (Str.ofString "i") (Pos.mk 83 24 83 25)] (Expr.BinOp (Expr.Name (Str.ofString "k") (Pos.mk 83 28 83 29)) Operator.Add (Expr.Constant (Const.int 1) 0 (Pos.mk 83 32 83 33)) (Pos.mk 83 28 83 33)) (Pos.mk 83 24 83 33), Stmt.Assign [Expr.Name (Str.ofString "k") (Pos.mk 84 24 84 25)] (Expr.BinOp (Expr.Name (Str.ofString "k") (Pos.mk 84 28 84 29)) Operator.Add (Expr.Constant (Const.int 3) 0 (Pos.mk 84 32 84 33)) (Pos.mk 84 28 84 33)) (Pos.mk 84 24 84 33)] [] (Pos.mk 78 20 84 33), Stmt.Assign [Expr.Name (Str.ofString "chunk") (Pos.mk 85 20 85 25)] (Expr.Subscript (Expr.Name (Str.ofString "pat") (Pos.mk 85 28 85 31)) (Expr.Slice (some (Expr.Name (Str.ofString "i") (Pos.mk 85 32 85 33))) (some (Expr.Name (Str.ofString "j") (Pos.mk 85 34 85 35))) none (Pos.mk 85 32 85 35)) (Pos.mk 85 28 85 36)) (Pos.mk 85 20 85 36), Stmt.If (Expr.Name (Str.ofString "chunk") (Pos.mk 86 23 86 28)) [Stmt.Expr (Expr.Call (Expr.Attribute (Expr.Name (Str.ofString "chunks") (Pos.mk 87 24 87 30)) (Str.ofString "append") (Pos.mk 87 24 87 37)) [Expr.Name (Str.ofString "chunk") (Pos.mk 87 38 87 43)] [] (Pos.mk 87 24 87 44)) (Pos.mk 87 24 87 44)] [Stmt.AugAssign (Expr.Subscript (Expr.Name (Str.ofString "chunks") (Pos.mk 89 24 89 30)) (Expr.UnaryOp UnaryOp.USub (Expr.Constant (Const.int 1) 0 (Pos.mk 89 32 89 33)) (Pos.mk 89 31 89 33)) (Pos.mk 89 24 89 34)) Operator.Add (Expr.Constant (Const.str (Str.ofString "-")) 0 (Pos.mk 89 38 89 41)) (Pos.mk 89 24 89 41)] (Pos.mk 86 20 89 41), Stmt.For (Expr.Name (Str.ofString "k") (Pos.mk 90 24 90 25)) (Expr.Call (Expr.Name (Str.ofString "range") (Pos.mk 90 29 90 34)) [Expr.BinOp (Expr.Call (Expr.Name (Str.ofString "len") (Pos.mk 90 35 90 38)) [Expr.Name (Str.ofString "chunks") (Pos.mk 90 39 90 45)] [] (Pos.mk 90 35 90 46)) Operator.Sub (Expr.Constant (Const.int 1) 0 (Pos.mk 90 49 90 50)) (Pos.mk 90 35 90 50), Expr.Constant (Const.int 0) 0 (Pos.mk 90 52 90 53), Expr.UnaryOp UnaryOp.USub (Expr.Constant (Const.int 1) 0 (Pos.mk 90 56 90 57)) (Pos.mk 90 55 90 57)] [] (Pos.mk 90 29 90 58)) [Stmt.If (Expr.Compare (Expr.Subscript (Expr.Subscript (Expr.Name (Str.ofString "chunks") (Pos.mk 91 27 91 33)) (Expr.BinOp (Expr.Name (Str.ofString "k") (Pos.mk 91 34 91 35)) Operator.Sub (Expr.Constant (Const.int 1) 0 (Pos.mk 91 38 91 39)) (Pos.mk 91 34 91 39)) (Pos.mk 91 27 91 40)) (Expr.UnaryOp UnaryOp.USub (Expr.Constant (Const.int 1) 0 (Pos.mk 91 42 91 43)) (Pos.mk 91 41 91 43)) (Pos.mk 91 27 91 44)) [CmpOp.Gt] [Expr.Subscript (Expr.Subscript (Expr.Name (Str.ofString "chunks") (Pos.mk 91 47 91 53)) (Expr.Name (Str.ofString "k") (Pos.mk 91 54 91 55)) (Pos.mk 91 47 91 56)) (Expr.Constant (Const.int 0) 0 (Pos.mk 91 57 91 58)) (Pos.mk 91 47 91 59)] (Pos.mk 91 27 91 59)) [Stmt.Assign [Expr.Subscript (Expr.Name (Str.ofString "chunks") (Pos.mk 92 28 92 34)) (Expr.BinOp (Expr.Name (Str.ofString "k") (Pos.mk 92 35 92 36)) Operator.Sub (Expr.Constant (Const.int 1) 0 (Pos.mk 92 39 92 40)) (Pos.mk 92 35 92 40)) (Pos.mk 92 28 92 41)] (Expr.BinOp (Expr.Subscript (Expr.Subscript (Expr.Name (Str.ofString "chunks") (Pos.mk 92 44 92 50)) (Expr.BinOp (Expr.Name (Str.ofString "k") (Pos.mk 92 51 92 52)) Operator.Sub (Expr.Constant (Const.int 1) 0 (Pos.mk 92 55 92 56)) (Pos.mk 92 51 92 56)) (Pos.mk 92 44 92 57)) (Expr.Slice none (some (Expr.UnaryOp UnaryOp.USub (Expr.Constant (Const.int 1) 0 (Pos.mk 92 60 92 61)) (Pos.mk 92 59 92 61))) none (Pos.mk 92 58 92 61)) (Pos.mk 92 44 92 62)) Operator.Add (Expr.Subscript (Expr.Subscript (Expr.Name (Str.ofString "chunks") (Pos.mk 92 65 92 71)) (Expr.Name (Str.ofString "k") (Pos.mk 92 72 92 73)) (Pos.mk 92 65 92 74)) (Expr.Slice (some (Expr.Constant (Const.int 1) 0 (Pos.mk 92 75 92 76))) none none (Pos.mk 92 75 92 77)) (Pos.mk 92 65 92 78)) (Pos.mk 92 44 92 78)) (Pos.mk 92 28 92 78), Stmt.Delete [Expr.Subscript (Expr.Name (Str.ofString "chunks") (Pos.mk 93 32 93 38)) (Expr.Name (Str.ofString "k") (Pos.mk 93 39 93 40)) (Pos.mk 93 32 93 41)] (Pos.mk 93 28 93 41)] [] (Pos.mk 91 24 93 41)] [] (Pos.mk 90 20 93 41), Stmt.Assign [Expr.Name (Str.ofString "stuff") (Pos.mk 94 20 94 25)] (Expr.Call (Expr.Attribute (Expr.Constant (Const.str (Str.ofString "-")) 0 (Pos.mk 94 28 94 31)) (Str.ofString "join") (Pos.mk 94 28 94 36)) [Expr.GeneratorExp (Expr.Call (Expr.Attribute (Expr.Call (Expr.Attribute (Expr.Name (Str.ofString "s") (Pos.mk 94 38 94 39)) (Str.ofString "replace") (Pos.mk 94 38 94 47)) [Expr.Constant (Const.str (Str.ofString "\\")) 0 (Pos.mk 94 48 94 52), Expr.Constant (Const.str (Str.ofString "\\\\")) 0 (Pos.mk 94 54 94 60)] [] (Pos.mk 94 38 94 61)) (Str.ofString "replace") (Pos.mk 94 38 94 69)) [Expr.Constant (Const.str (Str.ofString "-")) 0 (Pos.mk 94 70 94 73), Expr.Constant (Const.str (Str.ofString "\\-")) 0 (Pos.mk 94 75 94 80)] [] (Pos.mk 94 38 94 81)) [Comprehension.mk (Expr.Name (Str.ofString "s") (Pos.mk 94 86 94 87)) (Expr.Name (Str.ofString "chunks") (Pos.mk 94 91 94 97)) [] 0] (Scope.mk ScopeKind.function [(Str.ofString ".0", NameKind.local), (Str.ofString "s", NameKind.local)] true false []) (Pos.mk 94 37 94 98)] [] (Pos.mk 94 28 94 99)) (Pos.mk 94 20 94 99)] (Pos.mk 73 16 94 99), Stmt.Assign [Expr.Name (Str.ofString "stuff") (Pos.mk 95 16 95 21)] (Expr.Call (Expr.Attribute (Expr.Name (Str.ofString "_twin_re_1") (Pos.mk 95 24 95 34)) (Str.ofString "sub") (Pos.mk 95 24 95 38)) [Expr.Lambda (Arguments.mk [] [Arg.mk (Str.ofString "_m") none (Pos.mk 95 46 95 48)] none [] [] none []) (Expr.BinOp (Expr.Constant (Const.str (Str.ofString "\\")) 0 (Pos.mk 95 50 95 54)) Operator.Add (Expr.BoolOp BoolOp.Or [Expr.Call (Expr.Attribute (Expr.Name (Str.ofString "_m") (Pos.mk 95 58 95 60)) (Str.ofString "group") (Pos.mk 95 58 95 66)) [Expr.Constant (Const.int 1) 0 (Pos.mk 95 67 95 68)] [] (Pos.mk 95 58 95 69), Expr.Constant (Const.str (Str.ofString "")) 0 (Pos.mk 95 73 95 75)] (Pos.mk 95 58 95 75)) (Pos.mk 95 50 95 76)) (Scope.mk ScopeKind.function [(Str.ofString "_m", NameKind.local)] false false []) (Pos.mk 95 39 95 76), Expr.Name (Str.ofString "stuff") (Pos.mk 95 78 95 83)] [] (Pos.mk 95 24 95 84)) (Pos.mk 95 16 95 84), Stmt.Assign [Expr.Name (Str.ofString "i") (Pos.mk 96 16 96 17)] (Expr.BinOp (Expr.Name (Str.ofString "j") (Pos.mk 96 20 96 21)) Operator.Add (Expr.Constant (Const.int 1) 0 (Pos.mk 96 24 96 25)) (Pos.mk 96 20 96 25)) (Pos.mk 96 16 96 25), Stmt.If (Expr.UnaryOp UnaryOp.Not (Expr.Name (Str.ofString "stuff") (Pos.mk 97 23 97 28)) (Pos.mk 97 19 97 28)) [Stmt.Expr (Expr.Call (Expr.Name (Str.ofString "add") (Pos.mk 98 20 98 23)) [Expr.Constant (Const.str (Str.ofString "(?!)")) 0 (Pos.mk 98 24 98 30)] [] (Pos.mk 98 20 98 31)) (Pos.mk 98 20 98 31)] [Stmt.If (Expr.Compare (Expr.Name (Str.ofString "stuff") (Pos.mk 99 21 99 26)) [CmpOp.Eq] [Expr.Constant (Const.str (Str.ofString "!")) 0 (Pos.mk 99 30 99 33)] (Pos.mk 99 21 99 33)) [Stmt.Expr (Expr.Call (Expr.Name (Str.ofString "add") (Pos.mk 100 20 100 23)) [Expr.Constant (Const.str (Str.ofString ".")) 0 (Pos.mk 100 24 100 27)] [] (Pos.mk 100 20 100 28)) (Pos.mk 100 20 100 28)] [Stmt.If (Expr.Compare (Expr.Subscript (Expr.Name (Str.ofString "stuff") (Pos.mk 102 23 102 28)) (Expr.Constant (Const.int 0) 0 (Pos.mk 102 29 102 30)) (Pos.mk 102 23 102 31)) [CmpOp.Eq] [Expr.Constant (Const.str (Str.ofString "!")) 0 (Pos.mk 102 35 102 38)] (Pos.mk 102 23 102 38)) [Stmt.Assign [Expr.Name (Str.ofString "stuff") (Pos.mk 103 24 103 29)] (Expr.BinOp (Expr.Constant (Const.str (Str.ofString "^")) 0 (Pos.mk 103 32 103 35)) Operator.Add (Expr.Subscript (Expr.Name (Str.ofString "stuff") (Pos.mk 103 38 103 43)) (Expr.Slice (some (Expr.Constant (Const.int 1) 0 (Pos.mk 103 44 103 45))) none none (Pos.mk 103 44 103 46)) (Pos.mk 103 38 103 47)) (Pos.mk 103 32 103 47)) (Pos.mk 103 24 103 47)] [Stmt.If (Expr.Compare (Expr.Subscript (Expr.Name (Str.ofString "stuff") (Pos.mk 104 25 104 30)) (Expr.Constant (Const.int 0) 0 (Pos.mk 104 31 104 32)) (Pos.mk 104 25 104 33)) [CmpOp.In] [Expr.Tuple [Expr.Constant (Const.str (Str.ofString "^")) 0 (Pos.mk 104 38 104 41), Expr.Constant (Const.str (Str.ofString "[")) 0 (Pos.mk 104 43 104 46)] 0 (Pos.mk 104 37 104 47)] (Pos.mk 104 25 104 47)) [Stmt.Assign [Expr.Name (Str.ofString "stuff") (Pos.mk 105 24 105 29)] (Expr.BinOp (Expr.Constant (Const.str (Str.ofString "\\")) 0 (Pos.mk 105 32 105 36)) Operator.Add (Expr.Name (Str.ofString "stuff") (Pos.mk 105 39 105 44)) (Pos.mk 105 32 105 44)) (Pos.mk 105 24 105 44)] [] (Pos.mk 104 20 105 44)] (Pos.mk 102 20 105 44), Stmt.Expr (Expr.Call (Expr.Name (Str.ofString "add") (Pos.mk 106 20 106 23)) [Expr.JoinedStr [Expr.Constant (Const.str (Str.ofString "[")) 0 (Pos.mk 106 26 106 27), Expr.FormattedValue (Expr.Name (Str.ofString "stuff") (Pos.mk 106 28 106 33)) (-1) none (Pos.mk 106 27 106 34), Expr.Constant (Const.str (Str.ofString "]")) 0 (Pos.mk 106 34 106 35)] (Pos.mk 106 24 106 36)] [] (Pos.mk 106 20 106 37)) (Pos.mk 106 20 106 37)] (Pos.mk 99 16 106 37)] (Pos.mk 97 16 106 37)] (Pos.mk 69 12 106 37)] [Stmt.Expr (Expr.Call (Expr.Name (Str.ofString "add") (Pos.mk 108 12 108 15)) [Expr.Call (Expr.Name (Str.ofString "escape") (Pos.mk 108 16 108 22)) [Expr.Name (Str.ofString "c") (Pos.mk 108 23 108 24)] [] (Pos.mk 108 16 108 25)] [] (Pos.mk 108 12 108 26)) (Pos.mk 108 12 108 26)] (Pos.mk 61 8 108 26)] (Pos.mk 59 8 108 26)] (Pos.mk 56 8 108 26)] [] (Pos.mk 53 4 108 26), Stmt.Assert (Expr.Compare (Expr.Name (Str.ofString "i") (Pos.mk 109 11 109 12)) [CmpOp.Eq] [Expr.Name (Str.ofString "n") (Pos.mk 109 16 109 17)] (Pos.mk 109 11 109 17)) none (Pos.mk 109 4 109 17), Stmt.Return (some (Expr.Name (Str.ofString "res") (Pos.mk 110 11 110 14))) (Pos.mk 110 4 110 14)]) (Scope.mk ScopeKind.function [(Str.ofString "pat", NameKind.local), (Str.ofString "STAR", NameKind.local), (Str.ofString "QUESTION_MARK", NameKind.local), (Str.ofString "res", NameKind.local), (Str.ofString "add", NameKind.local), (Str.ofString "i", NameKind.local), (Str.ofString "n", NameKind.local), (Str.ofString "c", NameKind.local), (Str.ofString "j", NameKind.local), (Str.ofString "stuff", NameKind.local), (Str.ofString "chunks", NameKind.local), (Str.ofString "k", NameKind.local), (Str.ofString "chunk", NameKind.local), (Str.ofString "len", NameKind.globalImplicit), (Str.ofString "range", NameKind.globalImplicit), (Str.ofString "_twin_re_1", NameKind.globalImplicit), (Str.ofString "escape", NameKind.globalImplicit)] false false []) 3 [] Value.none Value.none Value.none (Value.str (Str.ofString "cpy313.fnmatch") 519) none (Value.ref 82) Value.none 0)) #[]) ::
 (nat_lit 84, Obj.mk (Value.type "tuple") none (Data.seq #[]) #[]) ::
 (nat_lit 86, Obj.mk (Value.type "tuple") none (Data.seq #[Value.str (Str.ofString "mycmp") 545, Value.str (Str.ofString "K") 546]) #[]) ::
 (nat_lit 87, Obj.mk (Value.type "tuple") none (Data.seq #[Value.str (Str.ofString "mycmp") 547]) #[]) ::
 (nat_lit 89, Obj.mk (Value.type "code") none (Data.fields #[Value.str (Str.ofString "cmp_to_key") 542, Value.str (Str.ofString "cmp_to_key") 543, Value.str (Str.ofString "/claim/cut.py") 544, Value.int 112 0, Value.int 1 0, Value.int 0 0, Value.int 0 0, Value.int 3 0, Value.ref 84, Value.bool true, Value.int 276 0, Value.ref 85, Value.none, Value.ref 86, Value.ref 87, Value.ref 88, Value.int 548 0, Value.int 112 0, Value.str (Str.ofString "/claim/cut.py") 549]) #[]) ::
 (nat_lit 90, Obj.mk (Value.type "function") none (Data.func (FuncData.mk (Str.ofString "cmp_to_key") (Str.ofString "cmp_to_key") (Arguments.mk [] [Arg.mk (Str.ofString "mycmp") none (Pos.mk 112 15 112 20)] none [] [] none []) (FuncBody.stmts [Stmt.ClassDef (Str.ofString "K") [Expr.Name (Str.ofString "object") (Pos.mk 114 12 114 18)] [] [Stmt.Assign [Expr.Name (Str.ofString "__module__") (Pos.mk 115 8 115 18)] (Expr.Constant (Const.str (Str.ofString "cpy313.functools")) 0 (Pos.mk 115 21 115 39)) (Pos.mk 115 8 115 39), Stmt.Assign [Expr.Name (Str.ofString "__slots__") (Pos.mk 116 8 116 17)] (Expr.List [Expr.Constant (Const.str (Str.ofString "obj")) 0 (Pos.mk 116 21 116 26)] (Pos.mk 116 20 116 27)) (Pos.mk 116 8 116 27), Stmt.FunctionDef (Str.ofString "__init__") (Arguments.mk [] [Arg.mk (Str.ofString "self") none (Pos.mk 118 21 118 25), Arg.mk (Str.ofString "obj") none (Pos.mk 118 27 118 30)] none [] [] none []) [Stmt.Assign [Expr.Attribute (Expr.Name (Str.ofString "self") (Pos.mk 119 12 119 16)) (Str.ofString "obj") (Pos.mk 119 12 119 20)] (Expr.Name (Str.ofString "obj") (Pos.mk 119 23 119 26)) (Pos.mk 119 12 119 26)] [] none [] (Scope.mk ScopeKind.function [(Str.ofString "self", NameKind.local), (Str.ofString "obj", NameKind.local)] false false []) none (Str.ofString "__init__") (Pos.mk 118 8 119 26), Stmt.FunctionDef (Str.ofString "__lt__") (Arguments.mk [] [Arg.mk (Str.ofString "self") none (Pos.mk 121 19 121 23), Arg.mk (Str.ofString "other") none (Pos.mk 121 25 121 30)] none [] [] none []) [Stmt.Return (some (Expr.Compare (Expr.Call (Expr.Name (Str.ofString "mycmp") (Pos.mk 122 19 122 24)) [Expr.Attribute (Expr.Name (Str.ofString "self") (Pos.mk 122 25 122 29)) (Str.ofString "obj") (Pos.mk 122 25 122 33), Expr.Attribute (Expr.Name (Str.ofString "other") (Pos.mk 122 35 122 40)) (Str.ofString "obj") (Pos.mk 122 35 122 44)] [] (Pos.mk 122 19 122 45)) [CmpOp.Lt] [Expr.Constant (Const.int 0) 0 (Pos.mk 122 48 122 49)] (Pos.mk 122 19 122 49))) (Pos.mk 122 12 122 49)] [] none [] (Scope.mk ScopeKind.function [(Str.ofString "self", NameKind.local), (Str.ofString "other", NameKind.local), (Str.ofString "mycmp", NameKind.free)] false false []) none (Str.ofString "__lt__") (Pos.mk 121 8 122 49), Stmt.FunctionDef (Str.ofString "__gt__") (Arguments.mk [] [Arg.mk (Str.ofString "self") none (Pos.mk 124 19 124 23), Arg.mk (Str.ofString "other") none (Pos.mk 124 25 124 30)] none [] [] none []) [Stmt.Return (some (Expr.Compare (Expr.Call (Expr.Name (Str.ofString "mycmp") (Pos.mk 125 19 125 24)) [Expr.Attribute (Expr.Name (Str.ofString "self") (Pos.mk 125 25 125 29)) (Str.ofString "obj") (Pos.mk 125 25 125 33), Expr.Attribute (Expr.Name (Str.ofString "other") (Pos.mk 125 35 125 40)) (Str.ofString "obj") (Pos.mk 125 35 125 44)] [] (Pos.mk 125 19 125 45)) [CmpOp.Gt] [Expr.Constant (Const.int 0) 0 (Pos.mk 125 48 125 49)] (Pos.mk 125 19 125 49))) (Pos.mk 125 12 125 49)] [] none [] (Scope.mk ScopeKind.function [(Str.ofString "self", NameKind.local), (Str.ofString "other", NameKind.local), (Str.ofString "mycmp", NameKind.free)] false false []) none (Str.ofString "__gt__") (Pos.mk 124 8 125 49), Stmt.FunctionDef (Str.ofString "__eq__") (Arguments.mk [] [Arg.mk (Str.ofString "self") none (Pos.mk 127 19 127 23), Arg.mk (Str.ofString "other") none (Pos.mk 127 25 127 30)] none [] [] none []) [Stmt.Return (some (Expr.Compare (Expr.Call (Expr.Name (Str.ofString "mycmp") (Pos.mk 128 19 128 24)) [Expr.Attribute (Expr.Name (Str.ofString "self") (Pos.mk 128 25 128 29)) (Str.ofString "obj") (Pos.mk 128 25 128 33), Expr.Attribute (Expr.Name (Str.ofString "other") (Pos.mk 128 35 128 40)) (Str.ofString "obj") (Pos.mk 128 35 128 44)] [] (Pos.mk 128 19 128 45)) [CmpOp.Eq] [Expr.Constant (Const.int 0) 0 (Pos.mk 128 49 128 50)] (Pos.mk 128 19 128 50))) (Pos.mk 128 12 128 50)] [] none [] (Scope.mk ScopeKind.function [(Str.ofString "self", NameKind.local), (Str.ofString "other", NameKind.local), (Str.ofString "mycmp", NameKind.free)] false false []) none (Str.ofString "__eq__") (Pos.mk 127 8 128 50), Stmt.FunctionDef (Str.ofString "__le__") (Arguments.mk [] [Arg.mk (Str.ofString "self") none (Pos.mk 130 19 130 23), Arg.mk (Str.ofString "other") none (Pos.mk 130 25 130 30)] none [] [] none []) [Stmt.Return (some (Expr.Compare (Expr.Call (Expr.Name (Str.ofString "mycmp") (Pos.mk 131 19 131 24)) [Expr.Attribute (Expr.Name (Str.ofString "self") (Pos.mk 131 25 131 29)) (Str.ofString "obj") (Pos.mk 131 25 131 33), Expr.Attribute (Expr.Name (Str.ofString "other") (Pos.mk 131 35 131 40)) (Str.ofString "obj") (Pos.mk 131 35 131 44)] [] (Pos.mk 131 19 131 45)) [CmpOp.LtE] [Expr.Constant (Const.int 0) 0 (Pos.mk 131 49 131 50)] (Pos.mk 131 19 131 50))) (Pos.mk 131 12 131 50)] [] none [] (Scope.mk ScopeKind.function [(Str.ofString "self", NameKind.local), (Str.ofString "other", NameKind.local), (Str.ofString "mycmp", NameKind.free)] false false []) none (Str.ofString "__le__") (Pos.mk 130 8 131 50), Stmt.FunctionDef (Str.ofString "__ge__") (Arguments.mk [] [Arg.mk (Str.ofString "self") none (Pos.mk 133 19 133 23), Arg.mk (Str.ofString "other") none (Pos.mk 133 25 133 30)] none [] [] none []) [Stmt.Return (some (Expr.Compare (Expr.Call (Expr.Name (Str.ofString "mycmp") (Pos.mk 134 19 134 24)) [Expr.Attribute (Expr.Name (Str.ofString "self") (Pos.mk 134 25 134 29)) (Str.ofString "obj") (Pos.mk 134 25 134 33), Expr.Attribute (Expr.Name (Str.ofString "other") (Pos.mk 134 35 134 40)) (Str.ofString "obj") (Pos.mk 134 35 134 44)] [] (Pos.mk 134 19 134 45)) [CmpOp.GtE] [Expr.Constant (Const.int 0) 0 (Pos.mk 134 49 134 50)] (Pos.mk 134 19 134 50))) (Pos.mk 134 12 134 50)] [] none [] (Scope.mk ScopeKind.function [(Str.ofString "self", NameKind.local), (Str.ofString "other", NameKind.local), (Str.ofString "mycmp", NameKind.free)] false false []) none (Str.ofString "__ge__") (Pos.mk 133 8 134 50), Stmt.Assign [Expr.Name (Str.ofString "__hash__") (Pos.mk 135 8 135 16)] (Expr.Constant Const.none 0 (Pos.mk 135 19 135 23)) (Pos.mk 135 8 135 23)] [] [] (Scope.mk ScopeKind.class [(Str.ofString "__module__", NameKind.local), (Str.ofString "__slots__", NameKind.local), (Str.ofString "__init__", NameKind.local), (Str.ofString "__lt__", NameKind.local), (Str.ofString "__gt__", NameKind.local), (Str.ofString "__eq__", NameKind.local), (Str.ofString "__le__", NameKind.local), (Str.ofString "__ge__", NameKind.local), (Str.ofString "__hash__", NameKind.local), (Str.ofString "mycmp", NameKind.free)] false false []) none (Str.ofString "K") [Str.ofString "obj"] (Pos.mk 114 4 135 23), Stmt.Return (some (Expr.Name (Str.ofString "K") (Pos.mk 136 11 136 12))) (Pos.mk 136 4 136 12)]) (Scope.mk ScopeKind.function [(Str.ofString "mycmp", NameKind.cell), (Str.ofString "K", NameKind.local), (Str.ofString "object", NameKind.globalImplicit)] false false []) 3 [] Value.none Value.none Value.none (Value.str (Str.ofString "cpy313.functools") 540) none (Value.ref 89) Value.none 0)) #[]) ::
 (nat_lit 91, Obj.mk (Value.type "object") none Data.plain #[]) ::
 (nat_lit 92, Obj.mk (Value.type "tuple") none (Data.seq #[Value.ref 91]) #[]) ::
 (nat_lit 93, Obj.mk (Value.type "tuple") none (Data.seq #[]) #[]) ::
 (nat_lit 95, Obj.mk (Value.type "tuple") none (Data.seq #[Value.str (Str.ofString "function") 555, Value.str (Str.ofString "sequence") 556, Value.str (Str.ofString "initial") 557, Value.str (Str.ofString "it") 558, Value.str (Str.ofString "value") 559, Value.str (Str.ofString "element") 560]) #[]) ::
 (nat_lit 96, Obj.mk (Value.type "tuple") none (Data.seq #[]) #[]) ::
 (nat_lit 98, Obj.mk (Value.type "code") none (Data.fields #[Value.str (Str.ofString "reduce") 552, Value.str (Str.ofString "reduce") 553, Value.str (Str.ofString "/claim/cut.py") 554, Value.int 138 0, Value.int 3 0, Value.int 0 0, Value.int 0 0, Value.int 3 0, Value.ref 93, Value.bool true, Value.int 276 0, Value.ref 94, Value.none, Value.ref 95, Value.ref 96, Value.ref 97, Value.int 561 0, Value.int 138 0, Value.str (Str.ofString "/claim/cut.py") 562]) #[]) ::
 (nat_lit 99, Obj.mk (Value.type "function") none (Data.func (FuncData.mk (Str.ofString "reduce") (Str.ofString "reduce") (Arguments.mk [] [Arg.mk (Str.ofString "function") none (Pos.mk 138 11 138 19), Arg.mk (Str.ofString "sequence") none (Pos.mk 138 21 138 29), Arg.mk (Str.ofString "initial") none (Pos.mk 138 31 138 38)] none [] [] none [Expr.Name (Str.ofString "_initial_missing") (Pos.mk 138 39 138 55)]) (FuncBody.stmts [Stmt.Assign [Expr.Name (Str.ofString "it") (Pos.mk 139 4 139 6)] (Expr.Call (Expr.Name (Str.ofString "iter") (Pos.mk 139 9 139 13)) [Expr.Name (Str.ofString "sequence") (Pos.mk 139 14 139 22)] [] (Pos.mk 139 9 139 23)) (Pos.mk 139 4 139 23), Stmt.If (Expr.Compare (Expr.Name (Str.ofString "initial") (Pos.mk 140 7 140 14)) [CmpOp.Is] [Expr.Name (Str.ofString "_initial_missing") (Pos.mk 140 18 140 34)] (Pos.mk 140 7 140 34)) [Stmt.Try [Stmt.Assign [Expr.Name (Str.ofString "value") (Pos.mk 142 12 142 17)] (Expr.Call (Expr.Name (Str.ofString "next") (Pos.mk 142 20 142 24)) [Expr.Name (Str.ofString "it") (Pos.mk 142 25 142 27)] [] (Pos.mk 142 20 142 28)) (Pos.mk 142 12 142 28)] [ExceptHandler.ExceptHandler (some (Expr.Name (Str.ofString "StopIteration") (Pos.mk 143 15 143 28))) none [Stmt.Raise (some (Expr.Call (Expr.Name (Str.ofString "TypeError") (Pos.mk 144 18 144 27)) [Expr.Constant (Const.str (Str.ofString "reduce() of empty iterable with no initial value")) 0 (Pos.mk 144 28 144 78)] [] (Pos.mk 144 18 144 79))) (some (Expr.Constant Const.none 0 (Pos.mk 144 85 144 89))) (Pos.mk 144 12 144 89)] (Pos.mk 143 8 144 89)] [] [] (Pos.mk 141 8 144 89)] [Stmt.Assign [Expr.Name (Str.ofString "value") (Pos.mk 146 8 146 13)] (Expr.Name (Str.ofString "initial") (Pos.mk 146 16 146 23)) (Pos.mk 146 8 146 23)] (Pos.mk 140 4 146 23), Stmt.For (Expr.Name (Str.ofString "element") (Pos.mk 147 8 147 15)) (Expr.Name (Str.ofString "it") (Pos.mk 147 19 147 21)) [Stmt.Assign [Expr.Name (Str.ofString "value") (Pos.mk 148 8 148 13)] (Expr.Call (Expr.Name (Str.ofString "function") (Pos.mk 148 16 148 24)) [Expr.Name (Str.ofString "value") (Pos.mk 148 25 148 30), Expr.Name (Str.ofString "element") (Pos.mk 148 32 148 39)] [] (Pos.mk 148 16 148 40)) (Pos.mk 148 8 148 40)] [] (Pos.mk 147 4 148 40), Stmt.Return (some (Expr.Name (Str.ofString "value") (Pos.mk 149 11 149 16))) (Pos.mk 149 4 149 16)]) (Scope.mk ScopeKind.function [(Str.ofString "function", NameKind.local), (Str.ofString "sequence", NameKind.local), (Str.ofString "initial", NameKind.local), (Str.ofString "it", NameKind.local), (Str.ofString "value", NameKind.local), (Str.ofString "element", NameKind.local), (Str.ofString "iter", NameKind.globalImplicit), (Str.ofString "_initial_missing", NameKind.globalImplicit), (Str.ofString "next", NameKind.globalImplicit), (Str.ofString "StopIteration", NameKind.globalImplicit), (Str.ofString "TypeError", NameKind.globalImplicit)] false false []) 3 [] (Value.ref 92) Value.none Value.none (Value.str (Str.ofString "cpy313.functools") 540) none (Value.ref 98) Value.none 0)) #[]) ::
 (nat_lit 100, Obj.mk (Value.type "tuple") none (Data.seq #[]) #[]) ::
 (nat_lit 103, Obj.mk (Value.type "code") none (Data.fields #[Value.str (Str.ofString "_law_pattern") 566, Value.str (Str.ofString "_law_pattern") 567, Value.str (Str.ofString "/claim/cut.py") 568, Value.int 151 0, Value.int 1 0, Value.int 0 0, Value.int 0 0, Value.int 3 0, Value.ref 100, Value.bool true, Value.int 276 0, Value.ref 101, Value.none, Value.none, Value.none, Value.ref 102, Value.int 569 0, Value.int 151 0, Value.str (Str.ofString "/claim/cut.py") 570]) #[]) ::
 (nat_lit 104, Obj.mk (Value.type "function") none (Data.func (FuncData.mk (Str.ofString "_law_pattern") (Str.ofString "_law_pattern") (Arguments.mk [] [Arg.mk (Str.ofString "x") none (Pos.mk 151 17 151 18)] none [] [] none []) (FuncBody.stmts [Stmt.Return (some (Expr.Call (Expr.Attribute (Expr.Constant (Const.str (Str.ofString "")) 0 (Pos.mk 152 11 152 13)) (Str.ofString "join") (Pos.mk 152 11 152 18)) [Expr.ListComp (Expr.Subscript (Expr.Constant (Const.str (Str.ofString "ab?**")) 0 (Pos.mk 152 20 152 27)) (Expr.BinOp (Expr.BinOp (Expr.BinOp (Expr.Name (Str.ofString "x") (Pos.mk 152 28 152 29)) Operator.FloorDiv (Expr.Constant (Const.int 2) 0 (Pos.mk 152 33 152 34)) (Pos.mk 152 28 152 34)) Operator.FloorDiv (Expr.BinOp (Expr.Constant (Const.int 5) 0 (Pos.mk 152 38 152 39)) Operator.Pow (Expr.Name (Str.ofString "k") (Pos.mk 152 43 152 44)) (Pos.mk 152 38 152 44)) (Pos.mk 152 28 152 44)) Operator.Mod (Expr.Constant (Const.int 5) 0 (Pos.mk 152 47 152 48)) (Pos.mk 152 28 152 48)) (Pos.mk 152 20 152 49)) [Comprehension.mk (Expr.Name (Str.ofString "k") (Pos.mk 152 54 152 55)) (Expr.Call (Expr.Name (Str.ofString "range") (Pos.mk 152 59 152 64)) [Expr.Constant (Const.int 3) 0 (Pos.mk 152 65 152 66)] [] (Pos.mk 152 59 152 67)) [] 0] (Scope.mk ScopeKind.function [(Str.ofString ".0", NameKind.local), (Str.ofString "k", NameKind.local), (Str.ofString "x", NameKind.free)] false false []) (Pos.mk 152 19 152 68)] [] (Pos.mk 152 11 152 69))) (Pos.mk 152 4 152 69)]) (Scope.mk ScopeKind.function [(Str.ofString "x", NameKind.cell), (Str.ofString "range", NameKind.globalImplicit)] false false [(Str.ofString "fast", Const.str (Str.ofString "x")), (Str.ofString "fast", Const.str (Str.ofString "k"))]) 3 [] Value.none Value.none Value.none (Value.str (Str.ofString "law_in0045_01") 564) none (Value.ref 103) Value.none 0)) #[]) ::
 (nat_lit 105, Obj.mk (Value.type "tuple") none (Data.seq #[]) #[]) ::
 (nat_lit 107, Obj.mk (Value.type "tuple") none (Data.seq #[Value.str (Str.ofString "parts") 575, Value.str (Str.ofString "places") 576, Value.str (Str.ofString "out") 577, Value.str (Str.ofString "k") 578]) #[]) ::
 (nat_lit 108, Obj.mk (Value.type "tuple") none (Data.seq #[]) #[]) ::
 (nat_lit 110, Obj.mk (Value.type "code") none (Data.fields #[Value.str (Str.ofString "_law_close") 572, Value.str (Str.ofString "_law_close") 573, Value.str (Str.ofString "/claim/cut.py") 574, Value.int 153 0, Value.int 2 0, Value.int 0 0, Value.int 0 0, Value.int 3 0, Value.ref 105, Value.bool true, Value.int 276 0, Value.ref 106, Value.none, Value.ref 107, Value.ref 108, Value.ref 109, Value.int 579 0, Value.int 153 0, Value.str (Str.ofString "/claim/cut.py") 580]) #[]) ::
 (nat_lit 111, Obj.mk (Value.type "function") none (Data.func (FuncData.mk (Str.ofString "_law_close") (Str.ofString "_law_close") (Arguments.mk [] [Arg.mk (Str.ofString "parts") none (Pos.mk 153 15 153 20), Arg.mk (Str.ofString "places") none (Pos.mk 153 22 153 28)] none [] [] none []) (FuncBody.stmts [Stmt.Assign [Expr.Name (Str.ofString "out") (Pos.mk 154 4 154 7)] (Expr.List [] (Pos.mk 154 10 154 12)) (Pos.mk 154 4 154 12), Stmt.For (Expr.Name (Str.ofString "k") (Pos.mk 155 8 155 9)) (Expr.Call (Expr.Name (Str.ofString "range") (Pos.mk 155 13 155 18)) [Expr.BinOp (Expr.Call (Expr.Name (Str.ofString "len") (Pos.mk 155 19 155 22)) [Expr.Name (Str.ofString "parts") (Pos.mk 155 23 155 28)] [] (Pos.mk 155 19 155 29)) Operator.Add (Expr.Constant (Const.int 1) 0 (Pos.mk 155 32 155 33)) (Pos.mk 155 19 155 33)] [] (Pos.mk 155 13 155 34)) [Stmt.If (Expr.BoolOp BoolOp.Or [Expr.Compare (Expr.Name (Str.ofString "k") (Pos.mk 156 11 156 12)) [CmpOp.In] [Expr.Name (Str.ofString "places") (Pos.mk 156 16 156 22)] (Pos.mk 156 11 156 22), Expr.BoolOp BoolOp.And [Expr.Compare (Expr.Name (Str.ofString "k") (Pos.mk 156 27 156 28)) [CmpOp.Gt] [Expr.Constant (Const.int 0) 0 (Pos.mk 156 31 156 32)] (Pos.mk 156 27 156 32), Expr.Compare (Expr.Subscript (Expr.Name (Str.ofString "parts") (Pos.mk 156 37 156 42)) (Expr.BinOp (Expr.Name (Str.ofString "k") (Pos.mk 156 43 156 44)) Operator.Sub (Expr.Constant (Const.int 1) 0 (Pos.mk 156 47 156 48)) (Pos.mk 156 43 156 48)) (Pos.mk 156 37 156 49)) [CmpOp.Is] [Expr.Constant Const.none 0 (Pos.mk 156 53 156 57)] (Pos.mk 156 37 156 57), Expr.Compare (Expr.BinOp (Expr.Name (Str.ofString "k") (Pos.mk 156 63 156 64)) Operator.Sub (Expr.Constant (Const.int 1) 0 (Pos.mk 156 67 156 68)) (Pos.mk 156 63 156 68)) [CmpOp.In] [Expr.Name (Str.ofString "out") (Pos.mk 156 72 156 75)] (Pos.mk 156 63 156 75)] (Pos.mk 156 27 156 76)] (Pos.mk 156 11 156 77)) [Stmt.Assign [Expr.Name (Str.ofString "out") (Pos.mk 157 12 157 15)] (Expr.BinOp (Expr.Name (Str.ofString "out") (Pos.mk 157 18 157 21)) Operator.Add (Expr.List [Expr.Name (Str.ofString "k") (Pos.mk 157 25 157 26)] (Pos.mk 157 24 157 27)) (Pos.mk 157 18 157 27)) (Pos.mk 157 12 157 27)] [] (Pos.mk 156 8 157 27)] [] (Pos.mk 155 4 157 27), Stmt.Return (some (Expr.Name (Str.ofString "out") (Pos.mk 158 11 158 14))) (Pos.mk 158 4 158 14)]) (Scope.mk ScopeKind.function [(Str.ofString "parts", NameKind.local), (Str.ofString "places", NameKind.local), (Str.ofString "out", NameKind.local), (Str.ofString "k", NameKind.local), (Str.ofString "range", NameKind.globalImplicit), (Str.ofString "len", NameKind.globalImplicit)] false false []) 3 [] Value.none Value.none Value.none (Value.str (Str.ofString "law_in0045_01") 564) none (Value.ref 110) Value.none 0)) #[]) ::
 (nat_lit 112, Obj.mk (Value.type "tuple") none (Data.seq #[]) #[]) ::
 (nat_lit 115, Obj.mk (Value.type "code") none (Data.fields #[Value.str (Str.ofString "_law_step") 582, Value.str (Str.ofString "_law_step") 583, Value.str (Str.ofString "/claim/cut.py") 584, Value.int 159 0, Value.int 3 0, Value.int 0 0, Value.int 0 0, Value.int 3 0, Value.ref 112, Value.bool true, Value.int 276 0, Value.ref 113, Value.none, Value.none, Value.none, Value.ref 114, Value.int 585 0, Value.int 159 0, Value.str (Str.ofString "/claim/cut.py") 586]) #[]) ::
 (nat_lit 116, Obj.mk (Value.type "function") none (Data.func (FuncData.mk (Str.ofString "_law_step") (Str.ofString "_law_step") (Arguments.mk [] [Arg.mk (Str.ofString "parts") none (Pos.mk 159 14 159 19), Arg.mk (Str.ofString "places") none (Pos.mk 159 21 159 27), Arg.mk (Str.ofString "sign") none (Pos.mk 159 29 159 33)] none [] [] none []) (FuncBody.stmts [Stmt.Assign [Expr.Name (Str.ofString "on") (Pos.mk 160 4 160 6)] (Expr.ListComp (Expr.IfExp (Expr.Compare (Expr.Subscript (Expr.Name (Str.ofString "parts") (Pos.mk 160 15 160 20)) (Expr.Name (Str.ofString "k") (Pos.mk 160 21 160 22)) (Pos.mk 160 15 160 23)) [CmpOp.Is] [Expr.Constant Const.none 0 (Pos.mk 160 27 160 31)] (Pos.mk 160 15 160 31)) (Expr.Name (Str.ofString "k") (Pos.mk 160 10 160 11)) (Expr.BinOp (Expr.Name (Str.ofString "k") (Pos.mk 160 37 160 38)) Operator.Add (Expr.Constant (Const.int 1) 0 (Pos.mk 160 41 160 42)) (Pos.mk 160 37 160 42)) (Pos.mk 160 10 160 42)) [Comprehension.mk (Expr.Name (Str.ofString "k") (Pos.mk 160 47 160 48)) (Expr.Name (Str.ofString "places") (Pos.mk 160 52 160 58)) [Expr.BoolOp BoolOp.And [Expr.Compare (Expr.Name (Str.ofString "k") (Pos.mk 160 62 160 63)) [CmpOp.Lt] [Expr.Call (Expr.Name (Str.ofString "len") (Pos.mk 160 66 160 69)) [Expr.Name (Str.ofString "parts") (Pos.mk 160 70 160 75)] [] (Pos.mk 160 66 160 76)] (Pos.mk 160 62 160 76), Expr.Compare (Expr.Subscript (Expr.Name (Str.ofString "parts") (Pos.mk 160 81 160 86)) (Expr.Name (Str.ofString "k") (Pos.mk 160 87 160 88)) (Pos.mk 160 81 160 89)) [CmpOp.In] [Expr.List [Expr.Constant Const.none 0 (Pos.mk 160 94 160 98), Expr.Constant (Const.str (Str.ofString "any")) 0 (Pos.mk 160 100 160 105), Expr.Name (Str.ofString "sign") (Pos.mk 160 107 160 111)] (Pos.mk 160 93 160 112)] (Pos.mk 160 81 160 112)] (Pos.mk 160 62 160 112)] 0] (Scope.mk ScopeKind.function [(Str.ofString ".0", NameKind.local), (Str.ofString "k", NameKind.local), (Str.ofString "len", NameKind.globalImplicit), (Str.ofString "parts", NameKind.free), (Str.ofString "sign", NameKind.free)] false false []) (Pos.mk 160 9 160 113)) (Pos.mk 160 4 160 113), Stmt.Return (some (Expr.Call (Expr.Name (Str.ofString "_law_close") (Pos.mk 161 11 161 21)) [Expr.Name (Str.ofString "parts") (Pos.mk 161 22 161 27), Expr.Name (Str.ofString "on") (Pos.mk 161 29 161 31)] [] (Pos.mk 161 11 161 32))) (Pos.mk 161 4 161 32)]) (Scope.mk ScopeKind.function [(Str.ofString "parts", NameKind.cell), (Str.ofString "places", NameKind.local), (Str.ofString "sign", NameKind.cell), (Str.ofString "on", NameKind.local), (Str.ofString "_law_close", NameKind.globalImplicit)] false false [(Str.ofString "fast", Const.str (Str.ofString "parts")), (Str.ofString "fast", Const.str (Str.ofString "places")), (Str.ofString "fast", Const.str (Str.ofString "sign")), (Str.ofString "fast", Const.str (Str.ofString "k")), (Str.ofString "fast", Const.str (Str.ofString "on"))]) 3 [] Value.none Value.none Value.none (Value.str (Str.ofString "law_in0045_01") 564) none (Value.ref 115) Value.none 0)) #[]) ::
 (nat_lit 117, Obj.mk (Value.type "tuple") none (Data.seq #[]) #[]) ::
 (nat_lit 119, Obj.mk (Value.type "tuple") none (Data.seq #[Value.str (Str.ofString "parts") 591, Value.str (Str.ofString "name") 592]) #[]) ::
 (nat_lit 120, Obj.mk (Value.type "tuple") none (Data.seq #[Value.str (Str.ofString "parts") 593]) #[]) ::
 (nat_lit 122, Obj.mk (Value.type "code") none (Data.fields #[Value.str (Str.ofString "_law_takes") 588, Value.str (Str.ofString "_law_takes") 589, Value.str (Str.ofString "/claim/cut.py") 590, Value.int 162 0, Value.int 2 0, Value.int 0 0, Value.int 0 0, Value.int 3 0, Value.ref 117, Value.bool true, Value.int 276 0, Value.ref 118, Value.none, Value.ref 119, Value.ref 120, Value.ref 121, Value.int 594 0, Value.int 162 0, Value.str (Str.ofString "/claim/cut.py") 595]) #[]) ::
 (nat_lit 123, Obj.mk (Value.type "function") none (Data.func (FuncData.mk (Str.ofString "_law_takes") (Str.ofString "_law_takes") (Arguments.mk [] [Arg.mk (Str.ofString "parts") none (Pos.mk 162 15 162 20), Arg.mk (Str.ofString "name") none (Pos.mk 162 22 162 26)] none [] [] none []) (FuncBody.stmts [Stmt.Return (some (Expr.Compare (Expr.Call (Expr.Name (Str.ofString "len") (Pos.mk 163 11 163 14)) [Expr.Name (Str.ofString "parts") (Pos.mk 163 15 163 20)] [] (Pos.mk 163 11 163 21)) [CmpOp.In] [Expr.Call (Expr.Name (Str.ofString "reduce") (Pos.mk 163 25 163 31)) [Expr.Lambda (Arguments.mk [] [Arg.mk (Str.ofString "places") none (Pos.mk 163 39 163 45), Arg.mk (Str.ofString "sign") none (Pos.mk 163 47 163 51)] none [] [] none []) (Expr.Call (Expr.Name (Str.ofString "_law_step") (Pos.mk 163 53 163 62)) [Expr.Name (Str.ofString "parts") (Pos.mk 163 63 163 68), Expr.Name (Str.ofString "places") (Pos.mk 163 70 163 76), Expr.Name (Str.ofString "sign") (Pos.mk 163 78 163 82)] [] (Pos.mk 163 53 163 83)) (Scope.mk ScopeKind.function [(Str.ofString "places", NameKind.local), (Str.ofString "sign", NameKind.local), (Str.ofString "parts", NameKind.free), (Str.ofString "_law_step", NameKind.globalImplicit)] false false []) (Pos.mk 163 32 163 83), Expr.Name (Str.ofString "name") (Pos.mk 163 85 163 89), Expr.Call (Expr.Name (Str.ofString "_law_close") (Pos.mk 163 91 163 101)) [Expr.Name (Str.ofString "parts") (Pos.mk 163 102 163 107), Expr.List [Expr.Constant (Const.int 0) 0 (Pos.mk 163 110 163 111)] (Pos.mk 163 109 163 112)] [] (Pos.mk 163 91 163 113)] [] (Pos.mk 163 25 163 114)] (Pos.mk 163 11 163 114))) (Pos.mk 163 4 163 114)]) (Scope.mk ScopeKind.function [(Str.ofString "parts", NameKind.cell), (Str.ofString "name", NameKind.local), (Str.ofString "len", NameKind.globalImplicit), (Str.ofString "reduce", NameKind.globalImplicit), (Str.ofString "_law_close", NameKind.globalImplicit)] false false []) 3 [] Value.none Value.none Value.none (Value.str (Str.ofString "law_in0045_01") 564) none (Value.ref 122) Value.none 0)) #[]) ::
 (nat_lit 124, Obj.mk (Value.type "tuple") none (Data.seq #[]) #[]) ::
 (nat_lit 126, Obj.mk (Value.type "tuple") none (Data.seq #[Value.str (Str.ofString "one") 600, Value.str (Str.ofString "two") 601]) #[]) ::
 (nat_lit 127, Obj.mk (Value.type "tuple") none (Data.seq #[]) #[]) ::
 (nat_lit 129, Obj.mk (Value.type "code") none (Data.fields #[Value.str (Str.ofString "_law_compare") 597, Value.str (Str.ofString "_law_compare") 598, Value.str (Str.ofString "/claim/cut.py") 599, Value.int 164 0, Value.int 2 0, Value.int 0 0, Value.int 0 0, Value.int 3 0, Value.ref 124, Value.bool true, Value.int 276 0, Value.ref 125, Value.none, Value.ref 126, Value.ref 127, Value.ref 128, Value.int 602 0, Value.int 164 0, Value.str (Str.ofString "/claim/cut.py") 603]) #[]) ::
 (nat_lit 130, Obj.mk (Value.type "function") none (Data.func (FuncData.mk (Str.ofString "_law_compare") (Str.ofString "_law_compare") (Arguments.mk [] [Arg.mk (Str.ofString "one") none (Pos.mk 164 17 164 20), Arg.mk (Str.ofString "two") none (Pos.mk 164 22 164 25)] none [] [] none []) (FuncBody.stmts [Stmt.If (Expr.Compare (Expr.Call (Expr.Name (Str.ofString "len") (Pos.mk 165 7 165 10)) [Expr.Name (Str.ofString "one") (Pos.mk 165 11 165 14)] [] (Pos.mk 165 7 165 15)) [CmpOp.NotEq] [Expr.Call (Expr.Name (Str.ofString "len") (Pos.mk 165 19 165 22)) [Expr.Name (Str.ofString "two") (Pos.mk 165 23 165 26)] [] (Pos.mk 165 19 165 27)] (Pos.mk 165 7 165 27)) [Stmt.Return (some (Expr.BinOp (Expr.Call (Expr.Name (Str.ofString "len") (Pos.mk 166 15 166 18)) [Expr.Name (Str.ofString "two") (Pos.mk 166 19 166 22)] [] (Pos.mk 166 15 166 23)) Operator.Sub (Expr.Call (Expr.Name (Str.ofString "len") (Pos.mk 166 26 166 29)) [Expr.Name (Str.ofString "one") (Pos.mk 166 30 166 33)] [] (Pos.mk 166 26 166 34)) (Pos.mk 166 15 166 34))) (Pos.mk 166 8 166 34)] [] (Pos.mk 165 4 166 34), Stmt.Return (some (Expr.IfExp (Expr.Compare (Expr.Name (Str.ofString "one") (Pos.mk 167 17 167 20)) [CmpOp.Gt] [Expr.Name (Str.ofString "two") (Pos.mk 167 23 167 26)] (Pos.mk 167 17 167 26)) (Expr.UnaryOp UnaryOp.USub (Expr.Constant (Const.int 1) 0 (Pos.mk 167 12 167 13)) (Pos.mk 167 11 167 13)) (Expr.Call (Expr.Name (Str.ofString "int") (Pos.mk 167 32 167 35)) [Expr.Compare (Expr.Name (Str.ofString "one") (Pos.mk 167 36 167 39)) [CmpOp.Lt] [Expr.Name (Str.ofString "two") (Pos.mk 167 42 167 45)] (Pos.mk 167 36 167 45)] [] (Pos.mk 167 32 167 46)) (Pos.mk 167 11 167 46))) (Pos.mk 167 4 167 46)]) (Scope.mk ScopeKind.function [(Str.ofString "one", NameKind.local), (Str.ofString "two", NameKind.local), (Str.ofString "len", NameKind.globalImplicit), (Str.ofString "int", NameKind.globalImplicit)] false false []) 3 [] Value.none Value.none Value.none (Value.str (Str.ofString "law_in0045_01") 564) none (Value.ref 129) Value.none 0)) #[]) ::
 (nat_lit 131, Obj.mk (Value.type "tuple") none (Data.seq #[]) #[]) ::
 (nat_lit 134, Obj.mk (Value.type "code") none (Data.fields #[Value.str (Str.ofString "_law_off") 605, Value.str (Str.ofString "_law_off") 606, Value.str (Str.ofString "/claim/cut.py") 607, Value.int 168 0, Value.int 1 0, Value.int 0 0, Value.int 0 0, Value.int 3 0, Value.ref 131, Value.bool true, Value.int 276 0, Value.ref 132, Value.none, Value.none, Value.none, Value.ref 133, Value.int 608 0, Value.int 168 0, Value.str (Str.ofString "/claim/cut.py") 609]) #[]) ::
 (nat_lit 135, Obj.mk (Value.type "function") none (Data.func (FuncData.mk (Str.ofString "_law_off") (Str.ofString "_law_off") (Arguments.mk [] [Arg.mk (Str.ofString "names") none (Pos.mk 168 13 168 18)] none [] [] none []) (FuncBody.stmts [Stmt.Assign [Expr.Tuple [Expr.Name (Str.ofString "key") (Pos.mk 169 4 169 7), Expr.Name (Str.ofString "heap") (Pos.mk 169 9 169 13), Expr.Name (Str.ofString "order") (Pos.mk 169 15 169 20)] 0 (Pos.mk 169 4 169 20)] (Expr.Tuple [Expr.Call (Expr.Name (Str.ofString "cmp_to_key") (Pos.mk 169 24 169 34)) [Expr.Name (Str.ofString "_law_compare") (Pos.mk 169 35 169 47)] [] (Pos.mk 169 24 169 48), Expr.List [] (Pos.mk 169 50 169 52), Expr.List [] (Pos.mk 169 54 169 56)] 0 (Pos.mk 169 23 169 57)) (Pos.mk 169 4 169 57), Stmt.Assign [Expr.Name (Str.ofString "pairs") (Pos.mk 170 4 170 9)] (Expr.ListComp (Expr.List [Expr.Call (Expr.Name (Str.ofString "key") (Pos.mk 170 14 170 17)) [Expr.Name (Str.ofString "name") (Pos.mk 170 18 170 22)] [] (Pos.mk 170 14 170 23), Expr.Name (Str.ofString "name") (Pos.mk 170 25 170 29)] (Pos.mk 170 13 170 30)) [Comprehension.mk (Expr.Name (Str.ofString "name") (Pos.mk 170 35 170 39)) (Expr.Name (Str.ofString "names") (Pos.mk 170 43 170 48)) [] 0] (Scope.mk ScopeKind.function [(Str.ofString ".0", NameKind.local), (Str.ofString "name", NameKind.local), (Str.ofString "key", NameKind.free)] false false []) (Pos.mk 170 12 170 49)) (Pos.mk 170 4 170 49), Stmt.For (Expr.Tuple [Expr.Name (Str.ofString "one") (Pos.mk 171 8 171 11), Expr.Name (Str.ofString "name") (Pos.mk 171 13 171 17)] 0 (Pos.mk 171 8 171 17)) (Expr.Name (Str.ofString "pairs") (Pos.mk 171 21 171 26)) [Stmt.Expr (Expr.Call (Expr.Name (Str.ofString "heappush") (Pos.mk 172 8 172 16)) [Expr.Name (Str.ofString "heap") (Pos.mk 172 17 172 21), Expr.Name (Str.ofString "one") (Pos.mk 172 23 172 26)] [] (Pos.mk 172 8 172 27)) (Pos.mk 172 8 172 27)] [] (Pos.mk 171 4 172 27), Stmt.While (Expr.Compare (Expr.Name (Str.ofString "heap") (Pos.mk 173 10 173 14)) [CmpOp.NotEq] [Expr.List [] (Pos.mk 173 18 173 20)] (Pos.mk 173 10 173 20)) [Stmt.Assign [Expr.Name (Str.ofString "one") (Pos.mk 174 8 174 11)] (Expr.Call (Expr.Name (Str.ofString "heappop") (Pos.mk 174 14 174 21)) [Expr.Name (Str.ofString "heap") (Pos.mk 174 22 174 26)] [] (Pos.mk 174 14 174 27)) (Pos.mk 174 8 174 27), Stmt.Assign [Expr.Name (Str.ofString "order") (Pos.mk 175 8 175 13)] (Expr.BinOp (Expr.Name (Str.ofString "order") (Pos.mk 175 16 175 21)) Operator.Add (Expr.ListComp (Expr.Name (Str.ofString "name") (Pos.mk 175 25 175 29)) [Comprehension.mk (Expr.Tuple [Expr.Name (Str.ofString "other") (Pos.mk 175 34 175 39), Expr.Name (Str.ofString "name") (Pos.mk 175 41 175 45)] 0 (Pos.mk 175 34 175 45)) (Expr.Name (Str.ofString "pairs") (Pos.mk 175 49 175 54)) [Expr.Compare (Expr.Name (Str.ofString "other") (Pos.mk 175 58 175 63)) [CmpOp.Is] [Expr.Name (Str.ofString "one") (Pos.mk 175 67 175 70)] (Pos.mk 175 58 175 70)] 0] (Scope.mk ScopeKind.function [(Str.ofString ".0", NameKind.local), (Str.ofString "other", NameKind.local), (Str.ofString "name", NameKind.local), (Str.ofString "one", NameKind.free)] false false []) (Pos.mk 175 24 175 71)) (Pos.mk 175 16 175 71)) (Pos.mk 175 8 175 71)] [] (Pos.mk 173 4 175 71), Stmt.Return (some (Expr.Name (Str.ofString "order") (Pos.mk 176 11 176 16))) (Pos.mk 176 4 176 16)]) (Scope.mk ScopeKind.function [(Str.ofString "names", NameKind.local), (Str.ofString "key", NameKind.cell), (Str.ofString "heap", NameKind.local), (Str.ofString "order", NameKind.local), (Str.ofString "name", NameKind.local), (Str.ofString "pairs", NameKind.local), (Str.ofString "one", NameKind.cell), (Str.ofString "cmp_to_key", NameKind.globalImplicit), (Str.ofString "_law_compare", NameKind.globalImplicit), (Str.ofString "heappush", NameKind.globalImplicit), (Str.ofString "heappop", NameKind.globalImplicit)] false false [(Str.ofString "fast", Const.str (Str.ofString "names")), (Str.ofString "fast", Const.str (Str.ofString "key")), (Str.ofString "fast", Const.str (Str.ofString "heap")), (Str.ofString "fast", Const.str (Str.ofString "order")), (Str.ofString "fast", Const.str (Str.ofString "name")), (Str.ofString "fast", Const.str (Str.ofString "pairs")), (Str.ofString "fast", Const.str (Str.ofString "one")), (Str.ofString "fast", Const.str (Str.ofString "other"))]) 3 [] Value.none Value.none Value.none (Value.str (Str.ofString "law_in0045_01") 564) none (Value.ref 134) Value.none 0)) #[]) ::
 (nat_lit 136, Obj.mk (Value.type "tuple") none (Data.seq #[]) #[]) ::
 (nat_lit 138, Obj.mk (Value.type "tuple") none (Data.seq #[Value.str (Str.ofString "pattern") 614, Value.str (Str.ofString "name") 615]) #[]) ::
 (nat_lit 139, Obj.mk (Value.type "tuple") none (Data.seq #[]) #[]) ::
 (nat_lit 141, Obj.mk (Value.type "code") none (Data.fields #[Value.str (Str.ofString "_law_fits") 611, Value.str (Str.ofString "_law_fits") 612, Value.str (Str.ofString "/claim/cut.py") 613, Value.int 177 0, Value.int 2 0, Value.int 0 0, Value.int 0 0, Value.int 3 0, Value.ref 136, Value.bool true, Value.int 276 0, Value.ref 137, Value.none, Value.ref 138, Value.ref 139, Value.ref 140, Value.int 616 0, Value.int 177 0, Value.str (Str.ofString "/claim/cut.py") 617]) #[]) ::
 (nat_lit 142, Obj.mk (Value.type "function") none (Data.func (FuncData.mk (Str.ofString "_law_fits") (Str.ofString "_law_fits") (Arguments.mk [] [Arg.mk (Str.ofString "pattern") none (Pos.mk 177 14 177 21), Arg.mk (Str.ofString "name") none (Pos.mk 177 23 177 27)] none [] [] none []) (FuncBody.stmts [Stmt.If (Expr.Compare (Expr.Name (Str.ofString "pattern") (Pos.mk 178 7 178 14)) [CmpOp.Eq] [Expr.Constant (Const.str (Str.ofString "")) 0 (Pos.mk 178 18 178 20)] (Pos.mk 178 7 178 20)) [Stmt.Return (some (Expr.Compare (Expr.Name (Str.ofString "name") (Pos.mk 179 15 179 19)) [CmpOp.Eq] [Expr.Constant (Const.str (Str.ofString "")) 0 (Pos.mk 179 23 179 25)] (Pos.mk 179 15 179 25))) (Pos.mk 179 8 179 25)] [] (Pos.mk 178 4 179 25), Stmt.If (Expr.Compare (Expr.Subscript (Expr.Name (Str.ofString "pattern") (Pos.mk 180 7 180 14)) (Expr.Constant (Const.int 0) 0 (Pos.mk 180 15 180 16)) (Pos.mk 180 7 180 17)) [CmpOp.Eq] [Expr.Constant (Const.str (Str.ofString "*")) 0 (Pos.mk 180 21 180 24)] (Pos.mk 180 7 180 24)) [Stmt.Return (some (Expr.BoolOp BoolOp.Or [Expr.Call (Expr.Name (Str.ofString "_law_fits") (Pos.mk 181 15 181 24)) [Expr.Subscript (Expr.Name (Str.ofString "pattern") (Pos.mk 181 25 181 32)) (Expr.Slice (some (Expr.Constant (Const.int 1) 0 (Pos.mk 181 33 181 34))) none none (Pos.mk 181 33 181 35)) (Pos.mk 181 25 181 36), Expr.Name (Str.ofString "name") (Pos.mk 181 38 181 42)] [] (Pos.mk 181 15 181 43), Expr.BoolOp BoolOp.And [Expr.Compare (Expr.Name (Str.ofString "name") (Pos.mk 181 48 181 52)) [CmpOp.NotEq] [Expr.Constant (Const.str (Str.ofString "")) 0 (Pos.mk 181 56 181 58)] (Pos.mk 181 48 181 58), Expr.Call (Expr.Name (Str.ofString "_law_fits") (Pos.mk 181 63 181 72)) [Expr.Name (Str.ofString "pattern") (Pos.mk 181 73 181 80), Expr.Subscript (Expr.Name (Str.ofString "name") (Pos.mk 181 82 181 86)) (Expr.Slice (some (Expr.Constant (Const.int 1) 0 (Pos.mk 181 87 181 88))) none none (Pos.mk 181 87 181 89)) (Pos.mk 181 82 181 90)] [] (Pos.mk 181 63 181 91)] (Pos.mk 181 48 181 91)] (Pos.mk 181 15 181 92))) (Pos.mk 181 8 181 92)] [] (Pos.mk 180 4 181 92), Stmt.Return (some (Expr.BoolOp BoolOp.And [Expr.Compare (Expr.Name (Str.ofString "name") (Pos.mk 182 11 182 15)) [CmpOp.NotEq] [Expr.Constant (Const.str (Str.ofString "")) 0 (Pos.mk 182 19 182 21)] (Pos.mk 182 11 182 21), Expr.Compare (Expr.Subscript (Expr.Name (Str.ofString "pattern") (Pos.mk 182 26 182 33)) (Expr.Constant (Const.int 0) 0 (Pos.mk 182 34 182 35)) (Pos.mk 182 26 182 36)) [CmpOp.In] [Expr.List [Expr.Constant (Const.str (Str.ofString "?")) 0 (Pos.mk 182 41 182 44), Expr.Subscript (Expr.Name (Str.ofString "name") (Pos.mk 182 46 182 50)) (Expr.Constant (Const.int 0) 0 (Pos.mk 182 51 182 52)) (Pos.mk 182 46 182 53)] (Pos.mk 182 40 182 54)] (Pos.mk 182 26 182 54), Expr.Call (Expr.Name (Str.ofString "_law_fits") (Pos.mk 182 59 182 68)) [Expr.Subscript (Expr.Name (Str.ofString "pattern") (Pos.mk 182 69 182 76)) (Expr.Slice (some (Expr.Constant (Const.int 1) 0 (Pos.mk 182 77 182 78))) none none (Pos.mk 182 77 182 79)) (Pos.mk 182 69 182 80), Expr.Subscript (Expr.Name (Str.ofString "name") (Pos.mk 182 82 182 86)) (Expr.Slice (some (Expr.Constant (Const.int 1) 0 (Pos.mk 182 87 182 88))) none none (Pos.mk 182 87 182 89)) (Pos.mk 182 82 182 90)] [] (Pos.mk 182 59 182 91)] (Pos.mk 182 11 182 91))) (Pos.mk 182 4 182 91)]) (Scope.mk ScopeKind.function [(Str.ofString "pattern", NameKind.local), (Str.ofString "name", NameKind.local), (Str.ofString "_law_fits", NameKind.globalImplicit)] false false []) 3 [] Value.none Value.none Value.none (Value.str (Str.ofString "law_in0045_01") 564) none (Value.ref 141) Value.none 0)) #[]) ::
 (nat_lit 143, Obj.mk (Value.type "tuple") none (Data.seq #[]) #[]) ::
 (nat_lit 146, Obj.mk (Value.type "code") none (Data.fields #[Value.str (Str.ofString "law") 619, Value.str (Str.ofString "law") 620, Value.str (Str.ofString "/claim/cut.py") 621, Value.int 183 0, Value.int 1 0, Value.int 0 0, Value.int 0 0, Value.int 3 0, Value.ref 143, Value.bool true, Value.int 276 0, Value.ref 144, Value.none, Value.none, Value.none, Value.ref 145, Value.int 622 0, Value.int 183 0, Value.str (Str.ofString "/claim/cut.py") 623]) #[]) ::
 (nat_lit 147, Obj.mk (Value.type "function") none (Data.func (FuncData.mk (Str.ofString "law") (Str.ofString "law") (Arguments.mk [] [Arg.mk (Str.ofString "script") none (Pos.mk 183 8 183 14)] none [] [] none []) (FuncBody.stmts [Stmt.Assign [Expr.Name (Str.ofString "numbers") (Pos.mk 184 4 184 11)] (Expr.BinOp (Expr.Subscript (Expr.Name (Str.ofString "script") (Pos.mk 184 14 184 20)) (Expr.Slice none (some (Expr.Constant (Const.int 3) 0 (Pos.mk 184 22 184 23))) none (Pos.mk 184 21 184 23)) (Pos.mk 184 14 184 24)) Operator.Add (Expr.List [Expr.Constant (Const.int 141) 0 (Pos.mk 184 28 184 31), Expr.Constant (Const.int 160) 0 (Pos.mk 184 33 184 36), Expr.Constant (Const.int 92) 0 (Pos.mk 184 38 184 40)] (Pos.mk 184 27 184 41)) (Pos.mk 184 14 184 41)) (Pos.mk 184 4 184 41), Stmt.Assign [Expr.Name (Str.ofString "rules") (Pos.mk 185 4 185 9)] (Expr.ListComp (Expr.List [Expr.BinOp (Expr.Name (Str.ofString "x") (Pos.mk 185 14 185 15)) Operator.Mod (Expr.Constant (Const.int 2) 0 (Pos.mk 185 18 185 19)) (Pos.mk 185 14 185 19), Expr.Call (Expr.Name (Str.ofString "_translate") (Pos.mk 185 21 185 31)) [Expr.Call (Expr.Name (Str.ofString "_law_pattern") (Pos.mk 185 32 185 44)) [Expr.Name (Str.ofString "x") (Pos.mk 185 45 185 46)] [] (Pos.mk 185 32 185 47), Expr.Constant Const.none 0 (Pos.mk 185 49 185 53), Expr.Constant (Const.str (Str.ofString "any")) 0 (Pos.mk 185 55 185 60)] [] (Pos.mk 185 21 185 61)] (Pos.mk 185 13 185 62)) [Comprehension.mk (Expr.Name (Str.ofString "x") (Pos.mk 185 67 185 68)) (Expr.Name (Str.ofString "numbers") (Pos.mk 185 72 185 79)) [] 0] (Scope.mk ScopeKind.function [(Str.ofString ".0", NameKind.local), (Str.ofString "x", NameKind.local), (Str.ofString "_translate", NameKind.globalImplicit), (Str.ofString "_law_pattern", NameKind.globalImplicit)] false false []) (Pos.mk 185 12 185 80)) (Pos.mk 185 4 185 80), Stmt.Assign [Expr.Name (Str.ofString "names") (Pos.mk 186 4 186 9)] (Expr.List [Expr.Constant (Const.str (Str.ofString "")) 0 (Pos.mk 186 13 186 15), Expr.Constant (Const.str (Str.ofString "a")) 0 (Pos.mk 186 17 186 20), Expr.Constant (Const.str (Str.ofString "b")) 0 (Pos.mk 186 22 186 25), Expr.Constant (Const.str (Str.ofString "aa")) 0 (Pos.mk 186 27 186 31), Expr.Constant (Const.str (Str.ofString "ab")) 0 (Pos.mk 186 33 186 37), Expr.Constant (Const.str (Str.ofString "ba")) 0 (Pos.mk 186 39 186 43), Expr.Constant (Const.str (Str.ofString "bb")) 0 (Pos.mk 186 45 186 49)] (Pos.mk 186 12 186 50)) (Pos.mk 186 4 186 50), Stmt.Assign [Expr.Name (Str.ofString "fold") (Pos.mk 187 4 187 8)] (Expr.Lambda (Arguments.mk [] [Arg.mk (Str.ofString "name") none (Pos.mk 187 18 187 22)] none [] [] none []) (Expr.Call (Expr.Name (Str.ofString "reduce") (Pos.mk 187 24 187 30)) [Expr.Lambda (Arguments.mk [] [Arg.mk (Str.ofString "told") none (Pos.mk 187 38 187 42), Arg.mk (Str.ofString "rule") none (Pos.mk 187 44 187 48)] none [] [] none []) (Expr.IfExp (Expr.Call (Expr.Name (Str.ofString "_law_takes") (Pos.mk 187 61 187 71)) [Expr.Subscript (Expr.Name (Str.ofString "rule") (Pos.mk 187 72 187 76)) (Expr.Constant (Const.int 1) 0 (Pos.mk 187 77 187 78)) (Pos.mk 187 72 187 79), Expr.Name (Str.ofString "name") (Pos.mk 187 81 187 85)] [] (Pos.mk 187 61 187 86)) (Expr.Subscript (Expr.Name (Str.ofString "rule") (Pos.mk 187 50 187 54)) (Expr.Constant (Const.int 0) 0 (Pos.mk 187 55 187 56)) (Pos.mk 187 50 187 57)) (Expr.Name (Str.ofString "told") (Pos.mk 187 92 187 96)) (Pos.mk 187 50 187 96)) (Scope.mk ScopeKind.function [(Str.ofString "told", NameKind.local), (Str.ofString "rule", NameKind.local), (Str.ofString "name", NameKind.free), (Str.ofString "_law_takes", NameKind.globalImplicit)] false false []) (Pos.mk 187 31 187 96), Expr.Subscript (Expr.Name (Str.ofString "rules") (Pos.mk 187 98 187 103)) (Expr.Slice none none (some (Expr.UnaryOp UnaryOp.USub (Expr.Constant (Const.int 1) 0 (Pos.mk 187 107 187 108)) (Pos.mk 187 106 187 108))) (Pos.mk 187 104 187 108)) (Pos.mk 187 98 187 109), Expr.Constant (Const.int 2) 0 (Pos.mk 187 111 187 112)] [] (Pos.mk 187 24 187 113)) (Scope.mk ScopeKind.function [(Str.ofString "name", NameKind.cell), (Str.ofString "rules", NameKind.free), (Str.ofString "reduce", NameKind.globalImplicit)] false false []) (Pos.mk 187 11 187 113)) (Pos.mk 187 4 187 113), Stmt.Assign [Expr.Name (Str.ofString "told") (Pos.mk 188 4 188 8)] (Expr.ListComp (Expr.List [Expr.Name (Str.ofString "name") (Pos.mk 188 13 188 17), Expr.Call (Expr.Name (Str.ofString "fold") (Pos.mk 188 19 188 23)) [Expr.Name (Str.ofString "name") (Pos.mk 188 24 188 28)] [] (Pos.mk 188 19 188 29)] (Pos.mk 188 12 188 30)) [Comprehension.mk (Expr.Name (Str.ofString "name") (Pos.mk 188 35 188 39)) (Expr.Call (Expr.Name (Str.ofString "_law_off") (Pos.mk 188 43 188 51)) [Expr.Name (Str.ofString "names") (Pos.mk 188 52 188 57)] [] (Pos.mk 188 43 188 58)) [] 0] (Scope.mk ScopeKind.function [(Str.ofString ".0", NameKind.local), (Str.ofString "name", NameKind.local), (Str.ofString "fold", NameKind.free)] false false []) (Pos.mk 188 11 188 59)) (Pos.mk 188 4 188 59), Stmt.Assign [Expr.Name (Str.ofString "single") (Pos.mk 189 4 189 10)] (Expr.ListComp (Expr.Call (Expr.Attribute (Expr.Call (Expr.Attribute (Expr.Call (Expr.Name (Str.ofString "_law_pattern") (Pos.mk 189 14 189 26)) [Expr.Name (Str.ofString "x") (Pos.mk 189 27 189 28)] [] (Pos.mk 189 14 189 29)) (Str.ofString "replace") (Pos.mk 189 14 189 37)) [Expr.Constant (Const.str (Str.ofString "**")) 0 (Pos.mk 189 38 189 42), Expr.Constant (Const.str (Str.ofString "*")) 0 (Pos.mk 189 44 189 47)] [] (Pos.mk 189 14 189 48)) (Str.ofString "replace") (Pos.mk 189 14 189 56)) [Expr.Constant (Const.str (Str.ofString "**")) 0 (Pos.mk 189 57 189 61), Expr.Constant (Const.str (Str.ofString "*")) 0 (Pos.mk 189 63 189 66)] [] (Pos.mk 189 14 189 67)) [Comprehension.mk (Expr.Name (Str.ofString "x") (Pos.mk 189 72 189 73)) (Expr.Name (Str.ofString "numbers") (Pos.mk 189 77 189 84)) [] 0] (Scope.mk ScopeKind.function [(Str.ofString ".0", NameKind.local), (Str.ofString "x", NameKind.local), (Str.ofString "_law_pattern", NameKind.globalImplicit)] false false []) (Pos.mk 189 13 189 85)) (Pos.mk 189 4 189 85), Stmt.If (Expr.Compare (Expr.ListComp (Expr.Name (Str.ofString "parts") (Pos.mk 190 8 190 13)) [Comprehension.mk (Expr.Tuple [Expr.Name (Str.ofString "verdict") (Pos.mk 190 18 190 25), Expr.Name (Str.ofString "parts") (Pos.mk 190 27 190 32)] 0 (Pos.mk 190 18 190 32)) (Expr.Name (Str.ofString "rules") (Pos.mk 190 36 190 41)) [] 0] (Scope.mk ScopeKind.function [(Str.ofString ".0", NameKind.local), (Str.ofString "verdict", NameKind.local), (Str.ofString "parts", NameKind.local)] false false []) (Pos.mk 190 7 190 42)) [CmpOp.NotEq] [Expr.ListComp (Expr.ListComp (Expr.Call (Expr.Attribute (Expr.Dict [some (Expr.Constant (Const.str (Str.ofString "*")) 0 (Pos.mk 190 49 190 52)), some (Expr.Constant (Const.str (Str.ofString "?")) 0 (Pos.mk 190 60 190 63))] [Expr.Constant Const.none 0 (Pos.mk 190 54 190 58), Expr.Constant (Const.str (Str.ofString "any")) 0 (Pos.mk 190 65 190 70)] (Pos.mk 190 48 190 71)) (Str.ofString "get") (Pos.mk 190 48 190 75)) [Expr.Name (Str.ofString "sign") (Pos.mk 190 76 190 80), Expr.Name (Str.ofString "sign") (Pos.mk 190 82 190 86)] [] (Pos.mk 190 48 190 87)) [Comprehension.mk (Expr.Name (Str.ofString "sign") (Pos.mk 190 92 190 96)) (Expr.Name (Str.ofString "pattern") (Pos.mk 190 100 190 107)) [] 0] (Scope.mk ScopeKind.function [(Str.ofString ".0", NameKind.local), (Str.ofString "sign", NameKind.local)] false false []) (Pos.mk 190 47 190 108)) [Comprehension.mk (Expr.Name (Str.ofString "pattern") (Pos.mk 190 113 190 120)) (Expr.Name (Str.ofString "single") (Pos.mk 190 124 190 130)) [] 0] (Scope.mk ScopeKind.function [(Str.ofString ".0", NameKind.local), (Str.ofString "pattern", NameKind.local)] false false []) (Pos.mk 190 46 190 131)] (Pos.mk 190 7 190 131)) [Stmt.Return (some (Expr.Constant (Const.bool false) 0 (Pos.mk 191 15 191 20))) (Pos.mk 191 8 191 20)] [] (Pos.mk 190 4 191 20), Stmt.Assign [Expr.Name (Str.ofString "first") (Pos.mk 192 4 192 9)] (Expr.ListComp (Expr.BinOp (Expr.ListComp (Expr.BinOp (Expr.Name (Str.ofString "x") (Pos.mk 192 14 192 15)) Operator.Mod (Expr.Constant (Const.int 2) 0 (Pos.mk 192 18 192 19)) (Pos.mk 192 14 192 19)) [Comprehension.mk (Expr.Name (Str.ofString "x") (Pos.mk 192 24 192 25)) (Expr.Name (Str.ofString "numbers") (Pos.mk 192 29 192 36)) [Expr.Call (Expr.Name (Str.ofString "_law_fits") (Pos.mk 192 40 192 49)) [Expr.Call (Expr.Name (Str.ofString "_law_pattern") (Pos.mk 192 50 192 62)) [Expr.Name (Str.ofString "x") (Pos.mk 192 63 192 64)] [] (Pos.mk 192 50 192 65), Expr.Name (Str.ofString "name") (Pos.mk 192 67 192 71)] [] (Pos.mk 192 40 192 72)] 0] (Scope.mk ScopeKind.function [(Str.ofString ".0", NameKind.local), (Str.ofString "x", NameKind.local), (Str.ofString "_law_fits", NameKind.globalImplicit), (Str.ofString "_law_pattern", NameKind.globalImplicit), (Str.ofString "name", NameKind.free)] false false []) (Pos.mk 192 13 192 73)) Operator.Add (Expr.List [Expr.Constant (Const.int 2) 0 (Pos.mk 192 77 192 78)] (Pos.mk 192 76 192 79)) (Pos.mk 192 13 192 79)) [Comprehension.mk (Expr.Name (Str.ofString "name") (Pos.mk 192 84 192 88)) (Expr.Subscript (Expr.Name (Str.ofString "names") (Pos.mk 192 92 192 97)) (Expr.Slice none none (some (Expr.UnaryOp UnaryOp.USub (Expr.Constant (Const.int 1) 0 (Pos.mk 192 101 192 102)) (Pos.mk 192 100 192 102))) (Pos.mk 192 98 192 102)) (Pos.mk 192 92 192 103)) [] 0] (Scope.mk ScopeKind.function [(Str.ofString ".0", NameKind.local), (Str.ofString "name", NameKind.cell), (Str.ofString "numbers", NameKind.free)] false false []) (Pos.mk 192 12 192 104)) (Pos.mk 192 4 192 104), Stmt.Return (some (Expr.Compare (Expr.Name (Str.ofString "told") (Pos.mk 193 11 193 15)) [CmpOp.Eq] [Expr.ListComp (Expr.List [Expr.Subscript (Expr.Name (Str.ofString "names") (Pos.mk 193 21 193 26)) (Expr.BinOp (Expr.Constant (Const.int 6) 0 (Pos.mk 193 27 193 28)) Operator.Sub (Expr.Name (Str.ofString "k") (Pos.mk 193 31 193 32)) (Pos.mk 193 27 193 32)) (Pos.mk 193 21 193 33), Expr.Subscript (Expr.Subscript (Expr.Name (Str.ofString "first") (Pos.mk 193 35 193 40)) (Expr.Name (Str.ofString "k") (Pos.mk 193 41 193 42)) (Pos.mk 193 35 193 43)) (Expr.Constant (Const.int 0) 0 (Pos.mk 193 44 193 45)) (Pos.mk 193 35 193 46)] (Pos.mk 193 20 193 47)) [Comprehension.mk (Expr.Name (Str.ofString "k") (Pos.mk 193 52 193 53)) (Expr.Call (Expr.Name (Str.ofString "range") (Pos.mk 193 57 193 62)) [Expr.Constant (Const.int 7) 0 (Pos.mk 193 63 193 64)] [] (Pos.mk 193 57 193 65)) [] 0] (Scope.mk ScopeKind.function [(Str.ofString ".0", NameKind.local), (Str.ofString "k", NameKind.local), (Str.ofString "first", NameKind.free), (Str.ofString "names", NameKind.free)] false false []) (Pos.mk 193 19 193 66)] (Pos.mk 193 11 193 66))) (Pos.mk 193 4 193 66)]) (Scope.mk ScopeKind.function [(Str.ofString "script", NameKind.local), (Str.ofString "numbers", NameKind.cell), (Str.ofString "names", NameKind.cell), (Str.ofString "fold", NameKind.cell), (Str.ofString "told", NameKind.local), (Str.ofString "single", NameKind.local), (Str.ofString "first", NameKind.cell), (Str.ofString "rules", NameKind.cell), (Str.ofString "_law_off", NameKind.globalImplicit), (Str.ofString "range", NameKind.globalImplicit)] false false [(Str.ofString "fast", Const.str (Str.ofString "script")), (Str.ofString "fast", Const.str (Str.ofString "numbers")), (Str.ofString "fast", Const.str (Str.ofString "x")), (Str.ofString "fast", Const.str (Str.ofString "names")), (Str.ofString "fast", Const.str (Str.ofString "fold")), (Str.ofString "fast", Const.str (Str.ofString "name")), (Str.ofString "fast", Const.str (Str.ofString "told")), (Str.ofString "fast", Const.str (Str.ofString "single")), (Str.ofString "fast", Const.str (Str.ofString "verdict")), (Str.ofString "fast", Const.str (Str.ofString "parts")), (Str.ofString "fast", Const.str (Str.ofString "pattern")), (Str.ofString "fast", Const.str (Str.ofString "sign")), (Str.ofString "fast", Const.str (Str.ofString "first")), (Str.ofString "fast", Const.str (Str.ofString "k")), (Str.ofString "fast", Const.str (Str.ofString "rules"))]) 3 [] Value.none Value.none Value.none (Value.str (Str.ofString "law_in0045_01") 564) none (Value.ref 146) Value.none 0)) #[]) :: []
noncomputable def view39 : Program := view PySem.Challenge.pw_in0045_01 [0, 2, 3, 4, 5, 6, 8, 9, 11, 13, 14, 17, 18, 19, 20, 21, 22, 23, 24]
abbrev looseL : List Str := [Str.ofString "_twin_re_1", Str.ofString "_special_chars_map", Str.ofString "_initial_missing", Str.ofString "reduce"]
def as39 : List Addr := [2, 3, 6, 11, 12, 32, 34, 35, 37, 38, 39, 41, 42, 44, 45, 46, 48, 49, 51, 52, 53, 55, 56, 58, 59, 63, 64, 66, 70, 72, 73, 75, 76, 77, 79, 80, 82, 83, 84, 86, 87, 89, 90, 91, 92, 93, 95, 96, 98, 99, 100, 103, 104, 105, 107, 108, 110, 111, 112, 115, 116, 117, 119, 120, 122, 123, 124, 126, 127, 129, 130, 131, 134, 135, 136, 138, 139, 141, 142, 143, 146, 147]
def ts39 : List Addr := [85, 118, 78, 144]
theorem as39_is (P : Params) : as39 = (heap39 P).map (·.1) := by kernel_rfl
noncomputable def hook : Hook where
  α := (List (Option Obj) × List (Option Obj)) × List (Option Obj)
  obs := fun s => ((as39.map s.heap.get?, ts39.map s.heap.get?), [s.heap.get? 0, s.heap.get? 4])
  val := fun w => (((heap39 w.params).map fun p => some p.2, ts39.map fun _ => some (tabObj #[])), [some (boot_o_0 w.params), some (boot_o_4 w.params)])
  says := fun w h => (InK heap39 w h ∧ ∀ P ∈ ts39, h.get? P = some (tabObj #[])) ∧ h.get? 0 = some (boot_o_0 w.params) ∧ h.get? 4 = some (boot_o_4 w.params)
  of := fun w s x => by
    obtain ⟨x, y⟩ := Prod.mk.inj x
    obtain ⟨y, z⟩ := List.cons.inj y
    exact ⟨⟨InK.of as39_is w s (Prod.mk.inj x).1, List.map_inj_left.mp (Prod.mk.inj x).2⟩, y, (List.cons.inj z).1⟩
  keeps := fun w h h' x k => ⟨⟨InK.keeps w h h' x.1.1 k, fun P hP => k _ _ (x.1.2 P hP)⟩, k _ _ x.2.1, k _ _ x.2.2⟩
theorem said : PySem.Challenge.rw_in0045_01.wellSaid = true := by kernel_rfl
noncomputable abbrev XtL : Shared → Bool := fun s => xlAt view39 [] s && recOk (RowW.records PySem.Challenge.rw_in0045_01.row.toRowW) s
def LeftAt (w : World) : Prop := (openEnds treeTable PySem.Challenge.pw_in0045_01 w 3924).map (fun s => (openSeen view39 looseL (importedModules PySem.Challenge.pw_in0045_01.main.body) XtL true s, hook.obs s)) = some (openGood view39 looseL, hook.val w)
abbrev row1 : String := "comprehension-iter-twice"
abbrev row2 : String := "special-get-raises"
theorem left_ff (w : World) : LeftAt ((w.withFollow row1 false).withFollow row2 false) := by delta LeftAt; kernel_rfl
theorem left_ft (w : World) : LeftAt ((w.withFollow row1 false).withFollow row2 true) := by delta LeftAt; kernel_rfl
theorem left_tf (w : World) : LeftAt ((w.withFollow row1 true).withFollow row2 false) := by delta LeftAt; kernel_rfl
theorem left_tt (w : World) : LeftAt ((w.withFollow row1 true).withFollow row2 true) := by delta LeftAt; kernel_rfl
theorem left_at : ∀ w, LeftAt w :=
  byRow2 row2 (byRow2 (P := fun w => LeftAt (w.withFollow row2 false)) row1 left_ff left_tf) (byRow2 (P := fun w => LeftAt (w.withFollow row2 true)) row1 left_ft left_tt)
theorem hd_of {d : DefRec} {kwd : List (Str × Expr)} (hdef : defOf view39 PySem.Challenge.rw_in0045_01.row.name = some (d, kwd)) (hp : PySem.Challenge.rw_in0045_01.row.prog.theDef PySem.Challenge.rw_in0045_01.row.name = some (d.params, d.body, d.scope))
    (hk : kwWritten? d.params.kwonlyargs d.params.kw_defaults = some kwd) (hw : PySem.Challenge.rw_in0045_01.row.toRowW.promised)
    (walk : WalkO view39 looseL (XL view39 []) hook.says PySem.Challenge.rw_in0045_01.row.toRowW d kwd fun f vs => PySem.call f vs) : PySem.Challenge.rw_in0045_01.Holds :=
  holds_law said fun _ => holds_open (q := view39) (loose := looseL) (Xt := XtL) (XP := XL view39 []) (Yf := hook.obs) (Ya := hook.val) (YP := hook.says) (N := 3924) left_at hook.of hook.keeps
    (fun s e => xl_of s (Bool.and_eq_true_iff.mp e).1) XL.keeps hdef hp hk (fun s e => recFacts_of (Bool.and_eq_true_iff.mp e).2) (by rfl) (by assumption) (by decide +kernel) ⟨rfl, rfl, rfl, rfl, rfl, by decide +kernel⟩ hw walk
end
section
-- text B45
open PySem PySem.W PyProof.Rows PySem.Calls
set_option maxHeartbeats 8000000
abbrev looseG : List Str := [Str.ofString "_twin_re_1", Str.ofString "_special_chars_map", Str.ofString "_initial_missing", Str.ofString "reduce", Str.ofString "_sre", Str.ofString "heappush", Str.ofString "heappop", Str.ofString "_siftdown", Str.ofString "_siftup", Str.ofString "escape", Str.ofString "_translate", Str.ofString "cmp_to_key", Str.ofString "_law_pattern", Str.ofString "_law_close", Str.ofString "_law_step", Str.ofString "_law_takes", Str.ofString "_law_compare", Str.ofString "_law_off", Str.ofString "_law_fits", Str.ofString "law"]
abbrev AA (d u : Nat) (fr : List Env) : Around := { handled := none, depth := d, frames := some fr, guards := none, units := u }
theorem below_lower {A : Around} {d u : Nat} {fr : List Env} {Γ : Ctx} (h1 : A.handled = none) (h2 : A.depth ≤ d) (h3 : A.frames = some fr) (h4 : A.units ≤ u) (h : Γ.Below A) : Γ.Below (AA d u fr) :=
  ⟨h.1.trans h1, Nat.le_trans h.2.1 h2, fun l hl => h.2.2.1 l (h3.trans hl), fun _ hg => (nomatch hg), Nat.le_trans h.2.2.2.2 h4⟩
theorem code_lower {M : Model} {A : Around} {d u : Nat} {fr : List Env} {c : Code} {R : Result → Shared → Prop} {s : Shared} (h1 : A.handled = none) (h2 : A.depth ≤ d) (h3 : A.frames = some fr) (h4 : A.units ≤ u)
    (h : codeAny M (AA d u fr) c R s) : codeAny M A c R s := fun Γ p hc hΓ => h Γ p hc (below_lower h1 h2 h3 h4 hΓ)
section
variable {prog : Program} {w : World} {A₀ A : Around} {s : Shared} {base h₀ : Heap} {outer fr : List Env} {L : Addr} {m mg mb : Str → Option Value} {env : Env} {tb : List (Addr × Obj)} {K : Frag} {p : Program} {loose : List Str} {mean : ExcName → Option Value}
  {R : Result → Shared → Prop} {name qual : Str} {params : Arguments} {body : List Stmt} {scope : Scope} {dV kV doc pm cdv ct oc : Value} {an od : Option Addr} {osl : Array (Option Value)} {f : Addr} {args : Args} {binds : List (Str × Value)}
theorem below_of {news : List (Addr × Obj)} (B : Below A₀ base outer h₀) (F : Fr h₀ L s.heap m) (N : News h₀ L s.heap news) (hA : A.frames = some (env :: outer)) (hf : env.frame = some L) (hke : env.scope.kind = .function) :
    Below A base (env :: outer) (hideAll s.heap (news.map (·.1))) ∧ h₀.StaysIn (hideAll s.heap (news.map (·.1))) :=
  let ⟨_, b, c, _⟩ := groundX (R := fun _ _ => True) B F N hA hf hke
  ⟨b, c⟩
theorem enter0 (g : Heap) (hg : g = hideAll s.heap (tb.map (·.1))) (htb : ∀ q ∈ tb, s.heap.get? q.1 = some q.2) (X : K.In g) (T : Top p loose mean mg mb g)
    (ho : K.lookup f = some ⟨oc, od, .func (fnOf name qual params body scope dV kV doc pm an cdv ct), osl⟩) (hcd : codeIn K cdv qual = true) (hroom : A.depth < recursionLimit)
    (hbind : BindsTo s (fnOf name qual params body scope dV kV doc pm an cdv ct) args binds) (hloc : ∀ y ∈ binds, scope.names.lookup y.1 = some .local)
    (h : ∀ L' h₁, Fr g L' h₁ (fun y => binds.reverse.lookup y) → News g L' h₁ tb → (∀ q ∈ tb, q.1 < L') →
      wpAny (model prog w) (A.deeper (envOf qual scope L' f cdv)) (execs body (envOf qual scope L' f cdv))
        (fun fl s' => R (.ok (.ret (match fl with | .ret v => v | _ => .none))) s')
        (fun e s' => wpAny (model prog w) (A.deeper (envOf qual scope L' f cdv)) (leaving (envOf qual scope L' f cdv) e) (fun _ s'' => R (.error e) s'') (fun e' s'' => R (.error e') s'') s')
        { s with heap := h₁, toks := s.toks + binds.length })
    (hco : scope.isCoroutine = false) (hgen : scope.isGenerator = false) (hk : scope.kind = .function)
    (hcell : ∀ x ∈ scope.names, x.2 ≠ .cell) : codeAny (model prog w) A (.call (.ref f) args) R s := by
  subst hg
  have up : ∀ b o, (hideAll s.heap (tb.map (·.1))).get? b = some o → s.heap.get? b = some o := fun b o e => of_hideAll _ e
  refine codeAny_call_def (fd := fnX name qual params body scope [] dV kV doc pm an cdv ct) (body := body) (binds := binds) hroom (up _ _ (X _ _ ho)) rfl (T.nolimit.keeps up) (codeRec_of (X.keeps up) hcd) rfl hbind hcell hloc (fun h₁ hns hk₁ => ?_) hco hgen hk
  exact h s.heap.objs.size h₁ ⟨hns, fun b o e => hk₁ b o (up b o e), Nat.le_of_eq (hideAll_size _ _)⟩
    (fun q hq => ⟨hk₁ _ _ (htb q hq), Nat.ne_of_lt (Heap.lt_size (htb q hq)), hideAll_none _ (List.mem_map_of_mem hq)⟩) (fun q hq => Heap.lt_size (htb q hq))
theorem enterC (g : Heap) (hg : g = hideAll s.heap (tb.map (·.1))) (htb : ∀ q ∈ tb, s.heap.get? q.1 = some q.2) (X : K.In g) (T : Top p loose mean mg mb g)
    (ho : K.lookup f = some ⟨oc, od, .func (fnOf name qual params body scope dV kV doc pm an cdv ct), osl⟩) (hcd : codeIn K cdv qual = true) (hroom : A.depth < recursionLimit)
    (hbind : BindsTo s (fnOf name qual params body scope dV kV doc pm an cdv ct) args binds) (hkind : (binds.all fun y => scope.names.lookup y.1 == some .local || scope.names.lookup y.1 == some .cell) = true)
    (hnd : ((cellsFrom 0 scope.names []).map (·.1)).Nodup)
    (h : ∀ L' h₁ tk cells, Fr g L' h₁ (bindL (envOfC qual scope L' f cdv).kindOf binds fun _ => none) → News g L' h₁ (cells ++ tb) →
      CellsAre (bindC (envOfC qual scope L' f cdv).kindOf binds fun _ => none) (cellsFrom (L' + 1) scope.names []) cells → (∀ q ∈ tb, q.1 < L') →
      wpAny (model prog w) (A.deeper (envOfC qual scope L' f cdv)) (execs body (envOfC qual scope L' f cdv))
        (fun fl s' => R (.ok (.ret (match fl with | .ret v => v | _ => .none))) s')
        (fun e s' => wpAny (model prog w) (A.deeper (envOfC qual scope L' f cdv)) (leaving (envOfC qual scope L' f cdv) e) (fun _ s'' => R (.error e) s'') (fun e' s'' => R (.error e') s'') s')
        { s with heap := h₁, toks := tk })
    (hco : scope.isCoroutine = false) (hgen : scope.isGenerator = false) (hk : scope.kind = .function) : codeAny (model prog w) A (.call (.ref f) args) R s := by
  subst hg
  have up : ∀ b o, (hideAll s.heap (tb.map (·.1))).get? b = some o → s.heap.get? b = some o := fun b o e => of_hideAll _ e
  refine codeAny_call_function hroom (up _ _ (X _ _ ho)) rfl hco hgen rfl (codeRec_of (X.keeps up) hcd) (hbind _ _ _ _ ?_)
  refine wpAny_newFunctionEnv_cells hk (kindsX hkind _) fun env' he s' x => ?_
  subst he
  refine ⟨(T.nolimit.keeps up).keeps x.toInCall.keep, codeAny_func ?_⟩
  obtain ⟨h₁, tk, rfl, _⟩ := x.done
  have hk₁ := x.toInCall.keep
  obtain ⟨cells, NC, Y⟩ := Cl.news (h₀ := s.heap) (Nat.le_refl _) fun n c hm => ⟨x.cell n c (lookup_of_mem_nodup (cellsFrom_names scope.names 0 (s.heap.objs.size + 1) [] [] rfl ▸ hnd) hm), x.above n c hm⟩
  refine h s.heap.objs.size h₁ tk cells ⟨x.toInCall.ns, fun b o e => hk₁ b o (up b o e), Nat.le_of_eq (hideAll_size _ _)⟩ (fun q hq => ?_) Y (fun q hq => Heap.lt_size (htb q hq))
  rcases List.mem_append.mp hq with hq | hq
  · refine ⟨(NC q hq).1, (NC q hq).2.1, ?_⟩
    cases e : (hideAll s.heap (tb.map (·.1))).get? q.1 with
    | none => rfl
    | some o => have := of_hideAll _ e; rw [(NC q hq).2.2] at this; cases this
  · exact ⟨hk₁ _ _ (htb q hq), Nat.ne_of_lt (Heap.lt_size (htb q hq)), hideAll_none _ (List.mem_map_of_mem hq)⟩
theorem enterS (X : K.In s.heap) (T : Top p loose mean mg mb s.heap)
    (ho : K.lookup f = some ⟨oc, od, .func (fnOf name qual params body scope dV kV doc pm an cdv ct), osl⟩) (hcd : codeIn K cdv qual = true) (hroom : A.depth < recursionLimit)
    (hbind : BindsTo s (fnOf name qual params body scope dV kV doc pm an cdv ct) args binds) (hloc : ∀ y ∈ binds, scope.names.lookup y.1 = some .local)
    (h : ∀ L' h₁, Fr s.heap L' h₁ (fun y => binds.reverse.lookup y) → News s.heap L' h₁ [] →
      wpAny (model prog w) (A.deeper (envOf qual scope L' f cdv)) (execs body (envOf qual scope L' f cdv))
        (fun fl s' => R (.ok (.ret (match fl with | .ret v => v | _ => .none))) s')
        (fun e s' => wpAny (model prog w) (A.deeper (envOf qual scope L' f cdv)) (leaving (envOf qual scope L' f cdv) e) (fun _ s'' => R (.error e) s'') (fun e' s'' => R (.error e') s'') s')
        { s with heap := h₁, toks := s.toks + binds.length })
    (hco : scope.isCoroutine = false) (hgen : scope.isGenerator = false) (hk : scope.kind = .function)
    (hcell : ∀ x ∈ scope.names, x.2 ≠ .cell) : codeAny (model prog w) A (.call (.ref f) args) R s :=
  enter0 (tb := []) s.heap rfl (fun _ h => nomatch h) X T ho hcd hroom hbind hloc (fun L' h₁ F N _ => h L' h₁ F N) hco hgen hk hcell
theorem enterSC (X : K.In s.heap) (T : Top p loose mean mg mb s.heap)
    (ho : K.lookup f = some ⟨oc, od, .func (fnOf name qual params body scope dV kV doc pm an cdv ct), osl⟩) (hcd : codeIn K cdv qual = true) (hroom : A.depth < recursionLimit)
    (hbind : BindsTo s (fnOf name qual params body scope dV kV doc pm an cdv ct) args binds) (hkind : (binds.all fun y => scope.names.lookup y.1 == some .local || scope.names.lookup y.1 == some .cell) = true)
    (hnd : ((cellsFrom 0 scope.names []).map (·.1)).Nodup)
    (h : ∀ L' h₁ tk cells, Fr s.heap L' h₁ (bindL (envOfC qual scope L' f cdv).kindOf binds fun _ => none) → News s.heap L' h₁ cells →
      CellsAre (bindC (envOfC qual scope L' f cdv).kindOf binds fun _ => none) (cellsFrom (L' + 1) scope.names []) cells →
      wpAny (model prog w) (A.deeper (envOfC qual scope L' f cdv)) (execs body (envOfC qual scope L' f cdv))
        (fun fl s' => R (.ok (.ret (match fl with | .ret v => v | _ => .none))) s')
        (fun e s' => wpAny (model prog w) (A.deeper (envOfC qual scope L' f cdv)) (leaving (envOfC qual scope L' f cdv) e) (fun _ s'' => R (.error e) s'') (fun e' s'' => R (.error e') s'') s')
        { s with heap := h₁, toks := tk })
    (hco : scope.isCoroutine = false) (hgen : scope.isGenerator = false) (hk : scope.kind = .function) : codeAny (model prog w) A (.call (.ref f) args) R s :=
  enterC (tb := []) s.heap rfl (fun _ h => nomatch h) X T ho hcd hroom hbind hkind hnd (fun L' h₁ tk cells F N Y _ => h L' h₁ tk cells F (by rw [List.append_nil] at N; exact N) Y) hco hgen hk
theorem use0 {d u : Nat} {M : Model} {c : Code} (B : Below A₀ base outer h₀) (F : Fr h₀ L s.heap m) (X : K.In h₀) (T : Top p loose mean mg mb h₀) (hA : A.frames = some (env :: outer)) (hf : env.frame = some L) (hke : env.scope.kind = .function)
    (hh : A.handled = none) (hd : A.depth ≤ d) (hu : A.units ≤ u)
    (spec : Below (AA d u (env :: outer)) base (env :: outer) s.heap → K.In s.heap → Top p loose mean mg mb s.heap → codeAny M (AA d u (env :: outer)) c R s) : codeAny M A c R s := by
  refine code_lower hh hd hA hu (spec ?_ (X.keeps F.keep) (T.keeps F.keep))
  have b := (below_of (news := []) B F News.nil hA hf hke).1
  exact ⟨rfl, b.stays, b.frames⟩
end
end
section
-- text C2a
open PySem PySem.W PyProof.Rows PySem.Calls
set_option maxHeartbeats 8000000
section
variable {prog : Program} {w : World} {A : Around} {E : Value → Shared → Prop} {s : Shared} {d : Addr}
theorem isSub_KeyError : isSubtype (.type "KeyError") (.type "LookupError") = pure true := by rw [isSubtype_type]; kernel_rfl
theorem lookup_rule {c : Nat} {f : Int → Option Value} {Q : Builtin.Str.Mapped → Shared → Prop} (hd : (d == sysModules) = false) (hh : A.handled = none) (hm : s.heap.MapOf (intKind prog w) d f) (hv : f c = none)
    (h : ∀ h' tk, (∀ b o, s.heap.get? b = some o → h'.get? b = some o) → Q .keep { s with heap := h', toks := tk }) : wpAny (model prog w) A (Builtin.Str.tableLookup (.ref d) c) Q E s := by
  unfold Builtin.Str.tableLookup
  refine wpAny_bind (wpAny_attempt (wpAny_bind (wpAny_mkInt ?_)))
  refine wpAny_getItem_missing_of (k := (c : Int)) (intKind_is prog w _ _) hd hh hm hv fun h' e x => ?_
  show wpAny _ _ (isInstance (.ref e) (.type "LookupError") >>= _) _ _ _
  refine wpAny_bind (wpAny_isInstance (T := "KeyError") ?_ isSub_KeyError ?_)
  · obtain ⟨ob, t, hg, hc, _⟩ := x.there
    exact ⟨ob, hg, hc⟩
  · rw [if_pos rfl]
    exact wpAny_bind (wpAny_rule (wpAny_pure (h _ _ x.keeps)))
theorem translate_rule {n : Nat} {t : Tok} {f : Int → Option Value} {Q : Value → Shared → Prop} (hn : n = 97 ∨ n = 98) (hd : (d == sysModules) = false) (hh : A.handled = none) (hm : s.heap.MapOf (intKind prog w) d f) (hv : f n = none)
    (h : ∀ t' h' tk, (∀ b o, s.heap.get? b = some o → h'.get? b = some o) → Q (.str ⟨#[n]⟩ t') { s with heap := h', toks := tk }) :
    wpAny (model prog w) A (call (.builtin "str.translate") [.str ⟨#[n]⟩ t, .ref d]) Q E s := by
  refine wpAny_call_entry F.slot_str_translate (typeIs_str _ _ _) F.entry_str_translate ?_ (F.args_str_translate_2 _ _)
  rcases hn with rfl | rfl
  · unfold Builtin.«str.translate»
    repeat (first | ((with_reducible show wpAny _ _ (Builtin.Str.tableLookup _ _) _ _ _); refine lookup_rule (A := A.in1) (c := 97) hd hh hm hv fun h' tk x => ?_) | wp_step)
    exact ⟨_, rfl, h _ _ _ x⟩
  · unfold Builtin.«str.translate»
    repeat (first | ((with_reducible show wpAny _ _ (Builtin.Str.tableLookup _ _) _ _ _); refine lookup_rule (A := A.in1) (c := 98) hd hh hm hv fun h' tk x => ?_) | wp_step)
    exact ⟨_, rfl, h _ _ _ x⟩
def intKeysOk (es : List DictEntry) : Bool := es.all fun e => match e.key with | .int i _ => e.hash == hashInt i | _ => false
theorem mapOfI {K : Frag} {h : Heap} {a : Addr} {es : Array DictEntry} {n : Nat} (X : K.In h) (hl : K.lookup a = some ⟨.type "dict", none, .dict es n, #[]⟩) (hk : intKeysOk es.toList = true) : h.MapOf (intKind prog w) a (fun k => findBy Value.isInt es k) :=
  ⟨_, es, n, X _ _ hl, ⟨rfl, rfl, rfl⟩, rfl, (by
    intro e he
    have q := List.all_eq_true.mp hk e (Array.mem_toList_iff.mpr he)
    split at q
    · rename_i i t e1
      exact ⟨i, by rw [e1]; exact intKind_is prog w i t, beq_iff_eq.mp q⟩
    · cases q), fun _ => rfl⟩
theorem translate_K {K : Frag} {h₀ : Heap} {L a : Addr} {m : Str → Option Value} {news : List (Addr × Obj)} {es : Array DictEntry} {k n : Nat} {t : Tok} {Q : Value → Shared → Prop} (F : Fr h₀ L s.heap m) (N : News h₀ L s.heap news) (X : K.In h₀)
    (hl : K.lookup a = some ⟨.type "dict", none, .dict es k, #[]⟩) (hk : intKeysOk es.toList = true) (hn : n = 97 ∨ n = 98) (hd : (a == sysModules) = false) (hh : A.handled = none) (hv : findBy Value.isInt es n = none)
    (h : ∀ t' h' tk, Fr h₀ L h' m → News h₀ L h' news → Q (.str ⟨#[n]⟩ t') { s with heap := h', toks := tk }) :
    wpAny (model prog w) A (call (.builtin "str.translate") [.str ⟨#[n]⟩ t, .ref a]) Q E s :=
  translate_rule hn hd hh (mapOfI (X.keeps F.keep) hl hk) hv fun t' h' tk x => h t' h' tk (F.keeps x) (N.grown x)
end
end
section
-- text G45
open PySem PySem.W PyProof.Rows PySem.Calls
set_option maxHeartbeats 8000000
abbrev bnd (id : String) (v : Value) : Obj := { cls := .type "builtin_function_or_method", data := .fields #[.builtin id, v] }
theorem slot_mget : Slot "method_descriptor" "__get__" "method_descriptor.__get__" :=
  .of (owner := "method_descriptor") (n := "__get__") (by rw [typeLookup_type, builtinLookup_eq_fast]; kernel_rfl) (by decide +kernel) (by decide +kernel) (by decide +kernel)
    (by first | exact .inl (by decide +kernel) | exact .inr (by decide +kernel)) (by rw [isSubtype_type]; kernel_rfl)
theorem entry_mget : entryFor table "method_descriptor.__get__" = some Builtin.«method_descriptor.__get__» := entryFor_of_tree (by kernel_rfl)
theorem args_mget (a b c : Value) : argsOk "method_descriptor.__get__" ⟨[a, b, c], []⟩ := by unfold argsOk; kernel_rfl
theorem md_noset : typeLookup (.type "method_descriptor") "__set__" = pure none := by rw [typeLookup_type, builtinLookup_eq_fast]; kernel_rfl
theorem md_nodel : typeLookup (.type "method_descriptor") "__delete__" = pure none := by rw [typeLookup_type, builtinLookup_eq_fast]; kernel_rfl
theorem sub_list_own : isSubtype (.type "list") (.type (".".intercalate ("list.append".cutAt '.').dropLast)) = pure true := by
  rw [show ".".intercalate ("list.append".cutAt '.').dropLast = "list" from by decide +kernel, isSubtype_type]; kernel_rfl
theorem sub_list_module : isSubtype (.type "list") (.type "module") = pure false := by rw [isSubtype_type]; kernel_rfl
section
variable {prog : Program} {w : World} {A : Around} {E : Value → Shared → Prop}
theorem getAttr_append {hp : Heap} {g : Array GenState} {d : Drawn} {tk : Nat} {os : OsState} {a : Addr} {xs : Array Value} {k : Nat} {sl : Array (Option Value)} {Q : Value → Shared → Prop}
    (hx : hp.get? a = some { cls := .type "list", dict := none, data := .seq xs k, slots := sl })
    (h : ∀ tk', Q (.ref hp.objs.size) ⟨hp.push (bnd "list.append" (.ref a)), g, d, tk', os⟩) :
    wpAny (model prog w) A (getAttr (.ref a) (Str.ofString "append") true) Q E ⟨hp, g, d, tk, os⟩ := by
  have hT : ∀ tk', (⟨hp, g, d, tk', os⟩ : Shared).TypeIs (.ref a) "list" := fun _ => ⟨_, hx, rfl⟩
  have f3 := F.slot_list_getattribute.lookup
  have f4 := F.slot_list_getattribute.bind (.ref a)
  have f5 := am_list_getattr_none
  have f6 := F.slot_list_append.lookup
  have f7 := F.type_list_append
  have f8 := slot_mget.lookup
  have f9 := md_noset
  have f10 := md_nodel
  have f11 := sub_list_own
  unfold getAttr getAttrBy
  repeat (first | assumption | exact hT _ | ((with_reducible show wpAny _ _ (call (Value.builtin "list.__getattribute__") _ _) _ _ _); refine wpAny_call_entry F.slot_list_getattribute (hT _) am_entry_list_getattribute ?_ (F.args_list_getattribute_2 _ _); unfold Builtin.«object.__getattribute__») | ((with_reducible show wpAny _ _ (call (Value.builtin "method_descriptor.__get__") _ _) _ _ _); refine wpAny_call_entry slot_mget F.type_list_append entry_mget ?_ (args_mget _ _ _); unfold Builtin.«method_descriptor.__get__») | wp_step)
  exact ⟨_, rfl, wpAny_pure ⟨_, rfl, wpAny_pure (h _)⟩⟩
theorem callWith_bnd {s : Shared} {pos : Pos} {u : Addr} {id : String} {v : Value} {first : List Value} {args : List (Bool × Sem Value)} {Q : Value → Shared → Prop} (hplain : args.any (·.1) = false)
    (h : wpAny (model prog w) A (evalArgs (.ref u) true args []) (fun x s₁ => s₁.heap.get? u = some (bnd id v) ∧ wpAny (model prog w) A (call (.ref u) (first ++ x.pos) x.kw) Q E s₁) E s) : wpAny (model prog w) A (callWith pos (.ref u) first args []) Q E s := by
  unfold callWith
  refine wpAny_bind (wpAny_holding (wpAny_mono h (fun x s₁ h₁ => wpAny_bind (wpAny_standAt ?_)) fun _ _ x => x))
  obtain ⟨ho, hcall⟩ := h₁
  simp only [hplain, List.any_nil, Bool.or_false]
  refine wpAny_bind (m := keeperOf (.ref u)) ?_
  unfold keeperOf
  refine wpAny_bind (wpAny_load ho ?_)
  simp only [show (Value.type "builtin_function_or_method" != Value.type "method") = true by decide, show (Value.type "builtin_function_or_method" == Value.type "builtin_function_or_method" || Value.type "builtin_function_or_method" == Value.type "method-wrapper") = true by decide, if_true]
  refine wpAny_pure ?_
  exact wpAny_bind (wpAny_mono hcall (fun r s₂ hr => wpAny_bind (wpAny_holding (wpAny_point (wpAny_pure hr)))) fun _ _ x => x)
theorem call_bnd_append {hp : Heap} {g : Array GenState} {d : Drawn} {tk : Nat} {os : OsState} {u l : Addr} {its : Array Value} {n : Nat} {x : Value} {Q : Value → Shared → Prop}
    (hu : hp.get? u = some (bnd "list.append" (.ref l))) (hl : hp.get? l = some { cls := .type "list", data := .seq its n })
    (h : ∀ h', Heap.SameBut l hp h' → h'.get? l = some { cls := .type "list", data := .seq (its.push x) (n + 1) } → Q .none ⟨h', g, d, tk, os⟩) (hsz : its.size ≤ sizeLine) :
    wpAny (model prog w) A (call (.ref u) [x]) Q E ⟨hp, g, d, tk, os⟩ := by
  have hT : ∀ tk', (⟨hp, g, d, tk', os⟩ : Shared).TypeIs (.ref l) "list" := fun _ => ⟨_, hl, rfl⟩
  refine wpAny_call (codeAny_of_tree ?_)
  show wpAny _ A.in1 (callAny (.ref u) ⟨[x], []⟩) _ _ _
  simp only [callAny]
  refine wpAny_bind (wpAny_load hu ?_)
  simp only [show (Value.type "builtin_function_or_method" == Value.type "method" || Value.type "builtin_function_or_method" == Value.type "builtin_function_or_method" || Value.type "builtin_function_or_method" == Value.type "method-wrapper") = true by decide, if_true]
  have f1 := sub_list_module
  unfold checkBoundCall
  repeat (first | assumption | exact hT _ | wp_step)
  refine ⟨Code.quiet_builtin _ (by decide +kernel), codeAny_builtin entry_list_append ?_⟩
  show wpAny _ _ (updateSeq l (·.push x) >>= fun _ => ret .none) _ _ _
  refine wpAny_bind ?_
  refine wpAny_updateSeq hl rfl (wpAny_pure (h _ (Heap.SameBut.update ..) ?_))
  rw [Heap.get?_update_self _ hl (by rw [mapSeq_push]; rfl), mapSeq_push]
variable {s : Shared} {h₀ : Heap} {L : Addr} {m : Str → Option Value} {news : List (Addr × Obj)}
theorem getAttr_append_K {l : Addr} {xs : Array Value} {k : Nat} {Q : Value → Shared → Prop} (F : Fr h₀ L s.heap m) (N : News h₀ L s.heap news) (hm : (l, ({ cls := .type "list", data := .seq xs k } : Obj)) ∈ news)
    (h : ∀ u h' tk', Fr h₀ L h' m → News h₀ L h' ((u, bnd "list.append" (.ref l)) :: news) → (∀ p ∈ news, p.1 < u) → Q (.ref u) { s with heap := h', toks := tk' }) :
    wpAny (model prog w) A (getAttr (.ref l) (Str.ofString "append") true) Q E s :=
  getAttr_append (N.get hm) fun tk' => h _ _ tk' (F.push _) (N.push F _) fun p hp => Heap.lt_size (N p hp).1
def BndAt (u : Addr) (id : String) (v : Value) (h : Heap) : Prop := h.get? u = some (bnd id v)
theorem bndAt_of {u : Addr} {id : String} {v : Value} {h : Heap} (N : News h₀ L h news) (hm : (u, bnd id v) ∈ news) : BndAt u id v h := N.get hm
theorem callWith_bnd_K {pos : Pos} {u : Addr} {id : String} {v : Value} {first : List Value} {env : Env} {e : Expr} {rest : List Expr} {Q : Value → Shared → Prop} (_N : News h₀ L s.heap news) (_hm : (u, bnd id v) ∈ news)
    (h : wpAny (model prog w) A (spliced (backTo pos (starEach (e :: rest) env))) (fun vs s₁ => BndAt u id v s₁.heap ∧ wpAny (model prog w) A (call (.ref u) (first ++ vs)) Q E s₁) E s)
    (he : starEach (e :: rest) env = (false, eval e env) :: starEach rest env := by rfl) (hplain : (backTo pos (starEach rest env)).any (·.1) = false := by rfl) :
    wpAny (model prog w) A (callWith pos (.ref u) first (backTo pos (starEach (e :: rest) env)) []) Q E s := by
  rw [he] at h ⊢
  refine callWith_bnd (id := id) (v := v) (by show (false || (backTo pos (starEach rest env)).any (·.1)) = false; rw [hplain]; rfl) ?_
  exact evalArgs_plain h
theorem call_bnd_append_K {u l : Addr} {its : Array Value} {n : Nat} {x : Value} {g : Obj → List (Addr × Obj)} {Q : Value → Shared → Prop} (F : Fr h₀ L s.heap m) (N : News h₀ L s.heap news) (hu : (u, bnd "list.append" (.ref l)) ∈ news)
    (U : UpdF l ({ cls := .type "list", data := .seq its n } : Obj) news g) (hsz : its.size ≤ sizeLine)
    (h : ∀ h', Fr h₀ L h' m → News h₀ L h' (g { cls := .type "list", data := .seq (its.push x) (n + 1) }) → Q .none { s with heap := h' }) :
    wpAny (model prog w) A (call (.ref u) [x]) Q E s := by
  obtain ⟨own, rest, rfl, hg, h1, h2⟩ := U.split
  have hmem := N (l, _) (List.mem_append_right _ (.head _))
  refine call_bnd_append (N.get hu) hmem.1 (fun h' hs ho' => ?_) hsz
  refine h h' ⟨F.ns.sameBut hs (Ne.symm hmem.2.1), fun b ob e => (hs.2 b (fun q => ?_)).trans (F.keep b ob e), F.above⟩ (hg _ ▸ N.setAt h1 h2 hs ho')
  rw [q, hmem.2.2] at e; cases e
theorem len_known {x : Str} {t : Tok} {Q : Value → Shared → Prop} (n : Nat) (hx : x.length = n) (hn : Nat.ble n 1000 = true) (h : ∀ t' k', Q (.int (n : Int) t') { s with toks := k' }) : wpAny (model prog w) A (call (.builtin "len") [.str x t]) Q E s := by
  have hn' : n ≤ 1000 := Nat.le_of_ble_eq_true hn
  refine SBL.len (by rw [hx]; omega) ?_
  rw [hx]; exact h _ _
end
end
section
-- text N46
open PySem PySem.W PyProof.Rows PySem.Calls
set_option maxHeartbeats 8000000
def kTup (x : Value) : Obj := { cls := .type "tuple", data := .seq #[x] 0 }
def kEnts (hs : Nat → Int) (ts : Nat → Tok) (fs : Nat → Addr) : Array DictEntry := #[
  ⟨hs 0, .str (Str.ofString "__module__") (ts 0), .str (Str.ofString "cpy313.functools") (ts 20)⟩,
  ⟨hs 1, .str (Str.ofString "__qualname__") (ts 1), .str (Str.ofString "cmp_to_key.<locals>.K") (ts 21)⟩,
  ⟨hs 2, .str (Str.ofString "__firstlineno__") (ts 2), .int 114 (ts 22)⟩,
  ⟨hs 3, .str (Str.ofString "__slots__") (ts 3), .ref (fs 0)⟩,
  ⟨hs 4, .str (Str.ofString "__init__") (ts 4), .ref (fs 1)⟩,
  ⟨hs 5, .str (Str.ofString "__lt__") (ts 5), .ref (fs 2)⟩,
  ⟨hs 6, .str (Str.ofString "__gt__") (ts 6), .ref (fs 3)⟩,
  ⟨hs 7, .str (Str.ofString "__eq__") (ts 7), .ref (fs 4)⟩,
  ⟨hs 8, .str (Str.ofString "__le__") (ts 8), .ref (fs 5)⟩,
  ⟨hs 9, .str (Str.ofString "__ge__") (ts 9), .ref (fs 6)⟩,
  ⟨hs 10, .str (Str.ofString "__hash__") (ts 10), .none⟩,
  ⟨hs 11, .str (Str.ofString "__static_attributes__") (ts 11), .ref (fs 7)⟩]
noncomputable def kNs (hs : Nat → Int) (ts : Nat → Tok) (fs : Nat → Addr) : Obj := { cls := .type "dict", data := .dict (kEnts hs ts fs) 12 }
def kSlots (t : Tok) : Obj := { cls := .type "list", data := .seq #[.str (Str.ofString "obj") t] 1 }
def kSlots0 (t : Tok) : Obj := { cls := .type "list", data := .seq #[.str (Str.ofString "obj") t] 0 }
noncomputable def olds (ts : Nat → Tok) (hs : Nat → Int) (fs : Nat → Addr) (bt nsA l : Addr) : List (Addr × Obj) := [(bt, kTup (.type "object")), (nsA, kNs hs ts fs), (fs 0, kSlots0 (ts 30)), (l, kSlots (ts 30))]
def neO (orc : Addr → Addr → Bool) (x y : Value) : Bool := match x, y with
  | .ref p, .ref q => !(orc p q)
  | x, y => x != y
def filtO (orc : Addr → Addr → Bool) (v : Value) (l : List Value) : List Value := l.filter fun x => neO orc x v
theorem neO_is (x y : Value) : neO (fun p q => decide (p = q)) x y = (x != y) := by
  unfold neO
  split
  · rename_i p q
    by_cases h : p = q
    · subst h; simp
    · have : (Value.ref p != Value.ref q) = true := by simp [h]
      rw [this]; simp [h]
  · rfl
theorem filt_is (v : Value) (l : List Value) : List.filter (fun x => x != v) l = filtO (fun p q => decide (p = q)) v l := by
  unfold filtO
  congr 1
  funext x
  exact (neO_is x v).symm
section
variable {α : Type} {prog : Program} {w : World} {A : Around} {E : Value → Shared → Prop} {s : Shared} {Q : α → Shared → Prop}
theorem if_f {b : Bool} {t e : Sem α} (h : b = false) (x : wpAny (model prog w) A e Q E s) : wpAny (model prog w) A (if b = true then t else e) Q E s := by
  subst h; exact x
theorem if_t {b : Bool} {t e : Sem α} (h : b = true) (x : wpAny (model prog w) A t Q E s) : wpAny (model prog w) A (if b = true then t else e) Q E s := by
  subst h; exact x
theorem any_filt {β : Type} {Q : β → Shared → Prop} {f : Value → Sem Bool} {p : Value → Bool} {l l' : List Value} {g : Bool → Sem β} (h : l.filter p = l') (x : wpAny (model prog w) A (List.anyM f l' >>= g) Q E s) : wpAny (model prog w) A (List.anyM f (l.filter p) >>= g) Q E s := by
  subst h; exact x
def CollectH (prog : Program) (w : World) (A : Around) (E : Value → Shared → Prop) : Prop := ∀ (s : Shared) (lst : Addr) (t : Tok) (Q : Result → Shared → Prop), s.heap.get? lst = some (kSlots0 t) →
  (∀ (l : Addr) (h' : Heap) (tk' : Nat), (∀ b o, s.heap.get? b = some o → h'.get? b = some o) → h'.get? l = some (kSlots t) → Q (.ok (.ret (.ref l))) { s with heap := h', toks := tk' }) →
  wpAny (model prog w) A (.call (.builtin "proto.collect" ⟨[.ref lst], []⟩) none false [] Sem.pure) Q E s
end
noncomputable def olds3 (ts : Nat → Tok) (hs : Nat → Int) (fs : Nat → Addr) (dt : Nat → Data) (sl : Nat → Array (Option Value)) (bt nsA : Addr) : List (Addr × Obj) := [(bt, kTup (.type "object")), (nsA, kNs hs ts fs), (fs 0, kSlots0 (ts 30)),
  (fs 1, ⟨.type "function", none, dt 1, sl 1⟩), (fs 2, ⟨.type "function", none, dt 2, sl 2⟩), (fs 3, ⟨.type "function", none, dt 3, sl 3⟩), (fs 4, ⟨.type "function", none, dt 4, sl 4⟩), (fs 5, ⟨.type "function", none, dt 5, sl 5⟩), (fs 6, ⟨.type "function", none, dt 6, sl 6⟩), (fs 7, ⟨.type "tuple", none, dt 7, sl 7⟩)]
theorem OldOk.more {h h' : Heap} {old : List (Addr × Obj)} (H : OldOk h [] old) (k : ∀ b o, h.get? b = some o → h'.get? b = some o) : OldOk h' [] old := fun p hp => ⟨k _ _ (H p hp).1, (H p hp).2⟩
theorem OldOk.snoc {h : Heap} {old : List (Addr × Obj)} {a : Addr} {o : Obj} (H : OldOk h [] old) (e : h.get? a = some o) : OldOk h [] (old ++ [(a, o)]) := fun p hp => by
  rcases List.mem_append.mp hp with hp | hp
  · exact H p hp
  · obtain rfl := List.mem_singleton.mp hp
    exact ⟨e, by simp [X.away]⟩
def mO (a : Addr) (t : Tok) : Obj := { cls := .type "member_descriptor", data := .fields #[.str (Str.ofString "obj") t, .ref a, .builtin "proto.slot", .builtin "proto.slot#set", rawInt 0] }
def clsO (a n2 bt : Addr) (t u : Tok) : Obj := { cls := .type "type", data := .cls { name := Str.ofString "K", bases := [.type "object"], mro := [.ref a, .type "object"], ns := n2, qualname := Str.ofString "cmp_to_key.<locals>.K", hasDict := false, slotNames := [Str.ofString "obj"] }, slots := #[some (.ref bt), none, some (.str (Str.ofString "K") t), some (.str (Str.ofString "cmp_to_key.<locals>.K") u), some (.builtin "object.__new__"), some (.bool false)] }
def ns2O (hs : Nat → Int) (ts : Nat → Tok) (fs : Nat → Addr) (m : Addr) (h1 h2 : Int) (t1 t2 : Tok) : Obj := { cls := .type "dict", data := .dict #[ ⟨hs 0, .str (Str.ofString "__module__") (ts 0), .str (Str.ofString "cpy313.functools") (ts 20)⟩, ⟨hs 2, .str (Str.ofString "__firstlineno__") (ts 2), .int 114 (ts 22)⟩, ⟨hs 3, .str (Str.ofString "__slots__") (ts 3), .ref (fs 0)⟩, ⟨hs 4, .str (Str.ofString "__init__") (ts 4), .ref (fs 1)⟩, ⟨hs 5, .str (Str.ofString "__lt__") (ts 5), .ref (fs 2)⟩, ⟨hs 6, .str (Str.ofString "__gt__") (ts 6), .ref (fs 3)⟩, ⟨hs 7, .str (Str.ofString "__eq__") (ts 7), .ref (fs 4)⟩, ⟨hs 8, .str (Str.ofString "__le__") (ts 8), .ref (fs 5)⟩, ⟨hs 9, .str (Str.ofString "__ge__") (ts 9), .ref (fs 6)⟩, ⟨hs 10, .str (Str.ofString "__hash__") (ts 10), .none⟩, ⟨hs 11, .str (Str.ofString "__static_attributes__") (ts 11), .ref (fs 7)⟩, ⟨h1, .str (Str.ofString "obj") t1, .ref m⟩, ⟨h2, .str (Str.ofString "__doc__") t2, .none⟩] 3 }
def supO (a : Addr) : Obj := { cls := .type "super", data := .fields #[.ref a, .ref a, .ref a] }
def SuperH (prog : Program) (w : World) (A : Around) (E : Value → Shared → Prop) : Prop := ∀ (s : Shared) (a n2 bt : Addr) (t u : Tok) (Q : Result → Shared → Prop), s.heap.get? a = some (clsO a n2 bt t u) →
  (∀ (so : Addr) (h' : Heap) (tk' : Nat), (∀ b o, s.heap.get? b = some o → h'.get? b = some o) → h'.get? so = some (supO a) → Q (.ok (.ret (.ref so))) { s with heap := h', toks := tk' }) →
  wpAny (model prog w) A (.call (.call (.type "super") ⟨[.ref a, .ref a], []⟩) none true [.ref a] Sem.pure) Q E s
def bO (a : Addr) : Obj := { cls := .type "builtin_function_or_method", data := .fields #[.builtin "object.__init_subclass__", .ref a] }
def GetH (prog : Program) (w : World) (A : Around) (E : Value → Shared → Prop) (K : Frag) : Prop := ∀ (s : Shared) (so a n2 bt : Addr) (t u tk : Tok) (Q : Result → Shared → Prop), K.In s.heap → s.heap.get? so = some (supO a) → s.heap.get? a = some (clsO a n2 bt t u) →
  (∀ (f : Addr) (h' : Heap) (tk' : Nat), (∀ b o, s.heap.get? b = some o → h'.get? b = some o) → h'.get? f = some (bO a) → Q (.ok (.ret (.ref f))) { s with heap := h', toks := tk' }) →
  wpAny (model prog w) A (.call (.call (.builtin "super.__getattribute__") ⟨[.ref so, .str (Str.ofString "__init_subclass__") tk], []⟩) none true [.ref a, .ref so, .ref so] Sem.pure) Q E s
def InitH (prog : Program) (w : World) (A : Around) (E : Value → Shared → Prop) : Prop := ∀ (s : Shared) (f a n2 bt : Addr) (t u : Tok) (Q : Result → Shared → Prop), s.heap.get? f = some (bO a) → s.heap.get? a = some (clsO a n2 bt t u) →
  (∀ (h' : Heap) (tk' : Nat), (∀ b o, s.heap.get? b = some o → h'.get? b = some o) → Q (.ok (.ret .none)) { s with heap := h', toks := tk' }) →
  wpAny (model prog w) A (.call (.call (.ref f) ⟨[], []⟩) none true [.ref a] Sem.pure) Q E s
theorem none_of {h h' : Heap} {a : Addr} (k : ∀ b o, h.get? b = some o → h'.get? b = some o) (e : h'.get? a = none) : h.get? a = none := by
  cases q : h.get? a with
  | none => rfl
  | some o => rw [k _ _ q] at e; cases e
theorem new_spec (prog : Program) (w : World) (A : Around) (E : Value → Shared → Prop) (Q : PySem.Fin → Shared → Prop) (s : Shared) (hs : Nat → Int) (ts : Nat → Tok) (fs : Nat → Addr) (dt : Nat → Data) (sl : Nat → Array (Option Value)) (bt k : Addr)
   (HC : CollectH prog w A E) (HS : SuperH prog w A E) (K : Frag) (HG : GetH prog w A E K) (hK : K.In s.heap) (HI : InitH prog w A E)
   (hold : OldOk s.heap [] (olds3 ts hs fs dt sl bt (k + 86)))
   (hq : ∀ (a n2 m : Addr) (h' : Heap) (tk' tk0 : Nat), (∀ b o, s.heap.get? b = some o → h'.get? b = some o) → s.heap.get? a = none → s.heap.get? n2 = none → s.heap.get? m = none →
     h'.get? a = some (clsO a n2 bt (ts 40) (ts 21)) → h'.get? n2 = some (ns2O hs ts fs m (reduceHash (w.params.strHash (Str.ofString "obj").cps)) (reduceHash (w.params.strHash (Str.ofString "__doc__").cps)) (tk0 + 1) (tk0 + 2)) → h'.get? m = some (mO a tk0) →
     Q (.done (.ret (.ref a))) { s with heap := h', toks := tk' }) : wpAny (model prog w) A (Builtin.«type.__new__» ⟨[.type "type", .str (Str.ofString "K") (ts 40), .ref bt, .ref (k + 86)], []⟩) Q E s := by
  have D := X.Mem.start s.heap
  delta Builtin.«type.__new__»
  refine st hold D 0 [] (⟨[], some (Str.ofString "K"), [], by kernel_rfl, by kernel_rfl, by kernel_rfl, fun h tk D => ?_⟩)
  refine st hold D 0 [500] (⟨[bt], true, [], by kernel_rfl, by kernel_rfl, by kernel_rfl, fun h tk D => ?_⟩)
  refine st hold D 0 [501] (⟨[k + 86], true, [], by kernel_rfl, by kernel_rfl, by kernel_rfl, fun h tk D => ?_⟩)
  refine st hold D 0 [500] (⟨[bt], some #[.type "object"], [], by kernel_rfl, by kernel_rfl, by kernel_rfl, fun h tk D => ?_⟩)
  refine st hold D 0 [] (⟨[], ⟨⟩, [], by kernel_rfl, by kernel_rfl, by kernel_rfl, fun h tk D => ?_⟩)
  refine st hold D 0 [] (⟨[], .type "type", [], by kernel_rfl, by kernel_rfl, by kernel_rfl, fun h tk D => ?_⟩)
  refine st hold D 0 [] (⟨[], ⟨⟩, [], by kernel_rfl, by kernel_rfl, by kernel_rfl, fun h tk D => ?_⟩)
  refine st hold D 0 [] (⟨[], .type "object", [], by kernel_rfl, by kernel_rfl, by kernel_rfl, fun h tk D => ?_⟩)
  refine st hold D 0 [501] (⟨[k + 86], kEnts hs ts fs, [], by kernel_rfl, by kernel_rfl, by kernel_rfl, fun h tk D => ?_⟩)
  refine st hold D 0 [501] (⟨[k + 86], some (.builtin "dict.__iter__"), [], by kernel_rfl, by kernel_rfl, by kernel_rfl, fun h tk D => ?_⟩)
  refine st hold D 0 [] (⟨[], (kEnts hs ts fs, []), [], by kernel_rfl, by kernel_rfl, by kernel_rfl, fun h tk D => ?_⟩)
  refine wpAny_bind (stC hold D 0 [502] ⟨[fs 0], (.builtin "proto.collect" ⟨[.ref (fs 0)], []⟩, none, false, []), [], by kernel_rfl, by kernel_rfl, by kernel_rfl, fun h tk D => ?_⟩)
  have D0 := D
  refine HC _ _ _ _ (D.keep _ _ (hold _ (.tail _ (.tail _ (.head _)))).1 (hold _ (.tail _ (.tail _ (.head _)))).2) ?_
  intro l h1 tk1 k1 e1
  have hold := (hold.more fun b o e => k1 b o (D.keep b o e (by simp [X.away]))).snoc e1
  have D := X.Mem.start h1
  refine stV hold D 0 [510] ⟨[l], ⟨[Str.ofString "obj"], false, false, []⟩, [], by kernel_rfl, by kernel_rfl, by kernel_rfl, fun h tk D => ?_⟩
  refine st hold D 1 [] (fun n2 => ⟨[], .ref n2, _, by kernel_rfl, by kernel_rfl, rfl, fun h tk D => ?_⟩)
  refine if_f (by kernel_rfl) ?_
  refine st hold D 0 [] (⟨[], ⟨⟩, _, by kernel_rfl, by kernel_rfl, rfl, fun h tk D => ?_⟩)
  refine if_f (by kernel_rfl) ?_
  refine st hold D 0 [0] (⟨[n2], some (.str (Str.ofString "cmp_to_key.<locals>.K") (ts 21)), _, by kernel_rfl, by kernel_rfl, rfl, fun h tk D => ?_⟩)
  refine st hold D 0 [0] (⟨[n2], some (.str (Str.ofString "cmp_to_key.<locals>.K") (ts 21)), _, by kernel_rfl, by kernel_rfl, rfl, fun h tk D => ?_⟩)
  refine st hold D 0 [] (⟨[], some (Str.ofString "cmp_to_key.<locals>.K"), _, by kernel_rfl, by kernel_rfl, rfl, fun h tk D => ?_⟩)
  refine st hold D 0 [] (⟨[], Str.ofString "cmp_to_key.<locals>.K", _, by kernel_rfl, by kernel_rfl, rfl, fun h tk D => ?_⟩)
  refine st hold D 0 [0] (⟨[n2], none, _, by kernel_rfl, by kernel_rfl, rfl, fun h tk D => ?_⟩)
  refine st hold D 1 [] (fun a => ⟨[], a, _, by kernel_rfl, by kernel_rfl, rfl, fun h tk D => ?_⟩)
  refine st hold D 0 [1] (⟨[a], ⟨⟩, _, by kernel_rfl, by kernel_rfl, rfl, fun h tk D => ?_⟩)
  refine st hold D 0 [1] (⟨[a], ⟨⟩, _, by kernel_rfl, by kernel_rfl, rfl, fun h tk D => ?_⟩)
  refine st hold D 0 [1] (⟨[a], ⟨⟩, _, by kernel_rfl, by kernel_rfl, rfl, fun h tk D => ?_⟩)
  refine st hold D 0 [0,0] (⟨[n2, n2], true, _, by kernel_rfl, by kernel_rfl, rfl, fun h tk D => ?_⟩)
  refine st hold D 0 [0] (⟨[n2], none, _, by kernel_rfl, by kernel_rfl, rfl, fun h tk D => ?_⟩)
  refine st hold D 0 [0,0] (⟨[n2,n2], ⟨⟩, _, by kernel_rfl, by kernel_rfl, rfl, fun h tk D => ?_⟩)
  refine st hold D 0 [0] (⟨[n2], none, _, by kernel_rfl, by kernel_rfl, rfl, fun h tk D => ?_⟩)
  refine st hold D 0 [0] (⟨[n2], none, _, by kernel_rfl, by kernel_rfl, rfl, fun h tk D => ?_⟩)
  refine st hold D 0 [] (⟨[], none, _, by kernel_rfl, by kernel_rfl, rfl, fun h tk D => ?_⟩)
  refine st hold D 0 [] (⟨[], [.type "object"], _, by kernel_rfl, by kernel_rfl, rfl, fun h tk D => ?_⟩)
  refine st hold D 0 [] (⟨[], [.ref a, .type "object"], _, by kernel_rfl, by kernel_rfl, rfl, fun h tk D => ?_⟩)
  have tk0e := Eq.refl tk
  revert tk0e
  generalize tk = tk0
  intro _
  refine any_filt (l' := [.type "object"]) (by simp) ?_
  refine stC hold D 1 [1,1,1,1,1,1,1,0,0,0,0,0,1,1,1,1,0,0,0,0,0,0,0,502,503,504,505,506,507,508,509,2] (fun m => ⟨[a,a,a,a,a,a,a,n2,n2,n2,n2,n2,a,a,a,a,n2,n2,n2,n2,n2,n2,n2,fs 0,fs 1,fs 2,fs 3,fs 4,fs 5,fs 6,fs 7,m], (.call (.type "super") ⟨[.ref a, .ref a], []⟩, none, true, [.ref a]),
    [(m, mO a tk0), (a, clsO a n2 bt (ts 40) (ts 21)), (n2, ns2O hs ts fs m (reduceHash (w.params.strHash (Str.ofString "obj").cps)) (reduceHash (w.params.strHash (Str.ofString "__doc__").cps)) (tk0 + 1) (tk0 + 2))], by kernel_rfl, by kernel_rfl, by kernel_rfl, fun h tk D => ?_⟩)
  have ea0 : h.get? a = some (clsO a n2 bt (ts 40) (ts 21)) := (D.nw _ (.tail _ (.head _))).1
  have en0 : h.get? n2 = some (ns2O hs ts fs m (reduceHash (w.params.strHash (Str.ofString "obj").cps)) (reduceHash (w.params.strHash (Str.ofString "__doc__").cps)) (tk0 + 1) (tk0 + 2)) := (D.nw _ (.tail _ (.tail _ (.head _)))).1
  have em0 : h.get? m = some (mO a tk0) := (D.nw _ (.head _)).1
  trace "A"
  refine HS _ a n2 bt (ts 40) (ts 21) _ ea0 ?_
  intro so h2 tk2 k2 e2
  trace "B"
  have ea := k2 _ _ ea0
  have en := k2 _ _ en0
  have em := k2 _ _ em0
  have fa := (D.nw _ (.tail _ (.head _))).2
  have fn := (D.nw _ (.tail _ (.tail _ (.head _)))).2
  have fm := (D.nw _ (.head _)).2
  have up : ∀ b o, s.heap.get? b = some o → h2.get? b = some o := fun b o e => k2 _ _ (D.keep _ _ (k1 _ _ (D0.keep _ _ e (by simp [X.away]))) (by simp [X.away]))
  have hold2 : OldOk h2 [] [(so, supO a), (a, clsO a n2 bt (ts 40) (ts 21))] := by
    intro p hp
    rcases List.mem_cons.mp hp with rfl | hp
    · exact ⟨e2, by simp [X.away]⟩
    · obtain rfl := List.mem_singleton.mp hp
      exact ⟨ea, by simp [X.away]⟩
  have D2 := X.Mem.start h2
  trace "C"
  with_reducible refine stC hold2 D2 0 [500] ?_
  trace "D"
  refine ⟨[so], (.call (.builtin "super.__getattribute__") ⟨[.ref so, .str (Str.ofString "__init_subclass__") tk2], []⟩, none, true, [.ref a, .ref so, .ref so]), [], by kernel_rfl, by kernel_rfl, by kernel_rfl, fun h3 tk3 D3 => ?_⟩
  have up3 : ∀ b o, h2.get? b = some o → h3.get? b = some o := fun b o e => D3.keep _ _ e (by simp [X.away])
  refine HG _ so a n2 bt (ts 40) (ts 21) tk2 _ (fun b o e => up3 _ _ (up _ _ (hK b o e))) (up3 _ _ e2) (up3 _ _ ea) ?_
  intro f h4 tk4 k4 e4
  have hold4 : OldOk h4 [] [(f, bO a)] := by
    intro p hp
    obtain rfl := List.mem_singleton.mp hp
    exact ⟨e4, by simp [X.away]⟩
  have D4 := X.Mem.start h4
  trace "E"
  with_reducible refine stC hold4 D4 0 [] ?_
  refine ⟨[], (.call (.ref f) ⟨[], []⟩, none, true, [.ref a]), [], by kernel_rfl, by kernel_rfl, by kernel_rfl, fun h5 tk5 D5 => ?_⟩
  have up5 : ∀ b o, h4.get? b = some o → h5.get? b = some o := fun b o e => D5.keep _ _ e (by simp [X.away])
  have ea4 := k4 _ _ (up3 _ _ ea)
  refine HI _ f a n2 bt (ts 40) (ts 21) _ (up5 _ _ e4) (up5 _ _ ea4) ?_
  intro h6 tk6 k6
  have hold6 : OldOk h6 [] [] := fun p hp => nomatch hp
  have D6 := X.Mem.start h6
  trace "F"
  with_reducible refine stV hold6 D6 0 [] ?_
  refine ⟨[], .done (.ret (.ref a)), [], by kernel_rfl, by kernel_rfl, by kernel_rfl, fun h7 tk7 D7 => ?_⟩
  have up7 : ∀ b o, h2.get? b = some o → h7.get? b = some o := fun b o e => D7.keep _ _ (k6 _ _ (up5 _ _ (k4 _ _ (up3 _ _ e)))) (by simp [X.away])
  have up1 : ∀ b o, s.heap.get? b = some o → h1.get? b = some o := fun b o e => k1 _ _ (D0.keep _ _ e (by simp [X.away]))
  exact hq a n2 m h7 tk7 tk0 (fun b o e => up7 _ _ (up _ _ e)) (none_of up1 fa) (none_of up1 fn) (none_of up1 fm) (up7 _ _ ea) (up7 _ _ en) (up7 _ _ em)
end
section
-- text N48
open PySem PySem.W PyProof.Rows PySem.Calls PySem.W.X
set_option maxHeartbeats 0
def CollectQ (s : Shared) (t : Tok) (Q : Result → Shared → Prop) : Prop := ∀ (l : Addr) (h' : Heap) (tk' : Nat), (∀ b o, s.heap.get? b = some o → h'.get? b = some o) → h'.get? l = some (kSlots t) → Q (.ok (.ret (.ref l))) { s with heap := h', toks := tk' }
theorem CollectQ.use {s : Shared} {t : Tok} {Q : Result → Shared → Prop} {h : Heap} {l : Addr} {tk : Nat} (H : CollectQ s t Q) (D : Mem s.heap h [] [(l, kSlots t)]) : Q (.ok (.ret (.ref l))) ⟨h, s.gens, s.drawn, tk, s.os⟩ :=
  H l h tk (fun _ _ e => D.keep _ _ e (by simp [away])) (D.nw _ (.head _)).1
local macro_rules | `(tactic| x_close) => `(tactic| exact CollectQ.use (by assumption) (by assumption))
theorem collect_is (w : World) (A : Around) (E : Value → Shared → Prop) : CollectH PySem.Challenge.rw_in0045_01.row.prog w A E := by
  k_fill
  intro s lst t Q e hq
  have hq : CollectQ s t Q := hq
  have e : s.heap.get? lst = some ⟨.type "list", none, .seq #[.str (Str.ofString "obj") t] 0, #[]⟩ := e
  x_run
def SuperQ (s : Shared) (a : Addr) (Q : Result → Shared → Prop) : Prop := ∀ (so : Addr) (h' : Heap) (tk' : Nat), (∀ b o, s.heap.get? b = some o → h'.get? b = some o) → h'.get? so = some (supO a) → Q (.ok (.ret (.ref so))) { s with heap := h', toks := tk' }
theorem SuperQ.use {s : Shared} {a : Addr} {Q : Result → Shared → Prop} {h : Heap} {l : Addr} {tk : Nat} (H : SuperQ s a Q) (D : Mem s.heap h [] [(l, supO a)]) : Q (.ok (.ret (.ref l))) ⟨h, s.gens, s.drawn, tk, s.os⟩ :=
  H l h tk (fun _ _ e => D.keep _ _ e (by simp [away])) (D.nw _ (.head _)).1
local macro_rules | `(tactic| x_close) => `(tactic| exact SuperQ.use (by assumption) (by assumption))
theorem super_is (w : World) (A : Around) (E : Value → Shared → Prop) : SuperH PySem.Challenge.rw_in0045_01.row.prog w A E := by
  k_fill
  intro s a n2 bt t u Q e hq
  have hq : SuperQ s a Q := hq
  have e : s.heap.get? a = some ⟨.type "type", none, .cls { name := Str.ofString "K", bases := [.type "object"], mro := [.ref a, .type "object"], ns := n2, qualname := Str.ofString "cmp_to_key.<locals>.K", hasDict := false, slotNames := [Str.ofString "obj"] }, #[some (.ref bt), none, some (.str (Str.ofString "K") t), some (.str (Str.ofString "cmp_to_key.<locals>.K") u), some (.builtin "object.__new__"), some (.bool false)]⟩ := e
  x_run
def InitQ (s : Shared) (Q : Result → Shared → Prop) : Prop := ∀ (h' : Heap) (tk' : Nat), (∀ b o, s.heap.get? b = some o → h'.get? b = some o) → Q (.ok (.ret .none)) { s with heap := h', toks := tk' }
end
section
-- text N50
open PySem PySem.W PyProof.Rows PySem.Calls PySem.W.X
set_option maxHeartbeats 0
def GetcQ (s : Shared) (a : Addr) (Q : Result → Shared → Prop) : Prop := ∀ (so : Addr) (h' : Heap) (tk' : Nat), (∀ b o, s.heap.get? b = some o → h'.get? b = some o) → h'.get? so = some (bO a) → Q (.ok (.ret (.ref so))) { s with heap := h', toks := tk' }
theorem GetcQ.use {s : Shared} {a : Addr} {Q : Result → Shared → Prop} {h : Heap} {l : Addr} {tk : Nat} (H : GetcQ s a Q) (D : Mem s.heap h [] [(l, bO a)]) : Q (.ok (.ret (.ref l))) ⟨h, s.gens, s.drawn, tk, s.os⟩ :=
  H l h tk (fun _ _ e => D.keep _ _ e (by simp [away])) (D.nw _ (.head _)).1
local macro_rules | `(tactic| x_close) => `(tactic| exact GetcQ.use (by assumption) (by assumption))
theorem getc_is (w : World) (A : Around) (E : Value → Shared → Prop) (s : Shared) (Q : Result → Shared → Prop) (a n2 bt : Addr) (t u : Tok)
   (e : s.heap.get? a = some (clsO a n2 bt t u)) (hq : GetcQ s a Q) :
   wpAny (model PySem.Challenge.rw_in0045_01.row.prog w) A (.call (.call (.builtin "classmethod_descriptor.__get__") ⟨[.builtin "object.__init_subclass__", .none, .ref a], []⟩) none false [] Sem.pure) Q E s := by
  k_fill
  have e : s.heap.get? a = some ⟨.type "type", none, .cls { name := Str.ofString "K", bases := [.type "object"], mro := [.ref a, .type "object"], ns := n2, qualname := Str.ofString "cmp_to_key.<locals>.K", hasDict := false, slotNames := [Str.ofString "obj"] }, #[some (.ref bt), none, some (.str (Str.ofString "K") t), some (.str (Str.ofString "cmp_to_key.<locals>.K") u), some (.builtin "object.__new__"), some (.bool false)]⟩ := e
  x_run
theorem InitQ.use {s : Shared} {Q : Result → Shared → Prop} {h : Heap} {tk : Nat} (H : InitQ s Q) (D : Mem s.heap h [] []) : Q (.ok (.ret .none)) ⟨h, s.gens, s.drawn, tk, s.os⟩ :=
  H h tk (fun _ _ e => D.keep _ _ e (by simp [away]))
theorem InitQ.use0 {s : Shared} {Q : Result → Shared → Prop} {tk : Nat} (H : InitQ s Q) : Q (.ok (.ret .none)) ⟨s.heap, s.gens, s.drawn, tk, s.os⟩ :=
  H s.heap tk (fun _ _ e => e)
local macro_rules | `(tactic| x_close) => `(tactic| first | exact InitQ.use0 (by assumption) | exact InitQ.use (by assumption) (by assumption))
theorem init_is (w : World) (A : Around) (E : Value → Shared → Prop) : InitH PySem.Challenge.rw_in0045_01.row.prog w A E := by
  k_fill
  intro s f a n2 bt t u Q ef e hq
  have hq : InitQ s Q := hq
  have ef : s.heap.get? f = some ⟨.type "builtin_function_or_method", none, .fields #[.builtin "object.__init_subclass__", .ref a], #[]⟩ := ef
  have e : s.heap.get? a = some ⟨.type "type", none, .cls { name := Str.ofString "K", bases := [.type "object"], mro := [.ref a, .type "object"], ns := n2, qualname := Str.ofString "cmp_to_key.<locals>.K", hasDict := false, slotNames := [Str.ofString "obj"] }, #[some (.ref bt), none, some (.str (Str.ofString "K") t), some (.str (Str.ofString "cmp_to_key.<locals>.K") u), some (.builtin "object.__new__"), some (.bool false)]⟩ := e
  x_run
end
section
-- text N49
open PySem PySem.W PyProof.Rows PySem.Calls PySem.W.X
set_option maxHeartbeats 0
theorem forIn_to {α β : Type} {prog : Program} {w : World} {A : Around} {E : Value → Shared → Prop} {s : Shared} {Q : β → Shared → Prop} {l l' : List Value} {i : α} {f : Value → α → Sem (ForInStep α)} {g : α → Sem β} (h : l = l') (x : wpAny (model prog w) A (forIn l' i f >>= g) Q E s) : wpAny (model prog w) A (forIn l i f >>= g) Q E s := by
  subst h; exact x
section
variable {prog : Program} {w : World} {A : Around} {E : Value → Shared → Prop} {s : Shared}
abbrev FinP (prog : Program) (w : World) (A : Around) (R : Result → Shared → Prop) : PySem.Fin → Shared → Prop := fun fin s' => match fin with | .done f => R (.ok f) s' | .again c' => c'.quiet = true ∧ codeAny (model prog w) A c' R s'
theorem run_builtin {id : String} {args : Args} {b : Builtin} {g : Bool} {l : List Value} {Q : Result → Shared → Prop} (hb : entryFor table id = some b) (hq : (Code.builtin id args).quiet = true)
    (h : wpAny (model prog w) (A.mark none).in1 (checkBuiltinCall id args) (fun _ s₁ => wpAny (model prog w) ((A.mark none).under (.builtin id args)) (b args) (FinP prog w (A.mark none) Q) (fun e s' => Q (.error e) s') s₁) (fun e s' => Q (.error e) s') s) :
    wpAny (model prog w) A (.call (.call (.builtin id) args) none g l Sem.pure) Q E s := by
  refine X.x_call ?_ (by intro h; cases h)
  refine codeAny_call_builtin_code hq (wpAny_mono h (fun _ s₁ h₁ => codeAny_builtinAt hb (wpAt_of_wpAny ?_)) fun _ _ h' => X.x_pure h')
  exact wpAny_mono h₁ (fun fin s' h' => by cases fin with
    | done f => exact X.x_pure h'
    | again c' => exact ⟨h'.1, fun Γ p hc hΓ => wpCode_mono (fun r s'' q => (X.x_pure q : wpAny (model prog w) A (Sem.pure r) Q E s'')) (h'.2 Γ p hc hΓ)⟩) fun e s' h' => X.x_pure h'
end
noncomputable def at39 (P : Params) (a : Nat) : Obj := ((Mine.heap39 P).lookup a).getD ⟨.none, .none, .fields #[], #[]⟩
theorem get_is (w : World) (A : Around) (E : Value → Shared → Prop) : GetH PySem.Challenge.rw_in0045_01.row.prog w A E (Mine.heap39 w.params) := by
  k_fill
  intro s so a n2 bt t u tk Q K0 eso ea hq
  have e2 : s.heap.get? 2 = some (at39 w.params 2) := K0 2 _ (by kernel_rfl)
  have hold : OldOk s.heap [] [(so, supO a), (2, at39 w.params 2), (a, clsO a n2 bt t u)] := by
    intro p hp
    rcases List.mem_cons.mp hp with rfl | hp
    · exact ⟨eso, by simp [X.away]⟩
    · rcases List.mem_cons.mp hp with rfl | hp
      · exact ⟨e2, by simp [X.away]⟩
      · obtain rfl := List.mem_singleton.mp hp
        exact ⟨ea, by simp [X.away]⟩
  have D := X.Mem.start s.heap
  refine run_builtin (b := Builtin.«super.__getattribute__») (entryFor_of_tree (by kernel_rfl)) (by kernel_rfl) ?_
  with_reducible refine stV hold D 0 [500] ?_
  refine ⟨[so], ⟨⟩, [], by kernel_rfl, by kernel_rfl, by kernel_rfl, fun h tk1 D => ?_⟩
  delta Builtin.«super.__getattribute__»
  refine st hold D 0 [] (⟨[], some (Str.ofString "__init_subclass__"), [], by kernel_rfl, by kernel_rfl, by kernel_rfl, fun h tk D => ?_⟩)
  refine st hold D 0 [] (⟨[], some (Str.ofString "__init_subclass__"), [], by kernel_rfl, by kernel_rfl, by kernel_rfl, fun h tk D => ?_⟩)
  refine st hold D 0 [500] (⟨[so], .ref a, [], by kernel_rfl, by kernel_rfl, by kernel_rfl, fun h tk D => ?_⟩)
  refine st hold D 0 [500] (⟨[so], .ref a, [], by kernel_rfl, by kernel_rfl, by kernel_rfl, fun h tk D => ?_⟩)
  refine st hold D 0 [500] (⟨[so], .ref a, [], by kernel_rfl, by kernel_rfl, by kernel_rfl, fun h tk D => ?_⟩)
  refine if_f (by kernel_rfl) ?_
  refine st hold D 0 [501] (⟨[2], ⟨⟩, [], by kernel_rfl, by kernel_rfl, by kernel_rfl, fun h tk D => ?_⟩)
  refine st hold D 0 [502] (⟨[a], [.ref a, .type "object"], [], by kernel_rfl, by kernel_rfl, by kernel_rfl, fun h tk D => ?_⟩)
  refine forIn_to (l' := [.type "object"]) (by simp) ?_
  with_reducible refine stC hold D 0 [] ?_
  refine ⟨[], (.call (.builtin "classmethod_descriptor.__get__") ⟨[.builtin "object.__init_subclass__", (if (Value.ref a == Value.ref a) = true then Value.none else Value.ref a), .ref a], []⟩, none, false, []), [], by kernel_rfl, by kernel_rfl, by kernel_rfl, fun h3 tk3 D3 => ?_⟩
  have up3 : ∀ b o, s.heap.get? b = some o → h3.get? b = some o := fun b o e => D3.keep _ _ e (by simp [X.away])
  rw [show (if (Value.ref a == Value.ref a) = true then Value.none else Value.ref a) = Value.none by simp]
  refine getc_is w _ _ _ _ a n2 bt t u (up3 _ _ ea) ?_
  intro f h4 tk4 k4 e4
  have hold4 : OldOk h4 [] [] := fun p hp => nomatch hp
  have D4 := X.Mem.start h4
  with_reducible refine stV hold4 D4 0 [] ?_
  refine ⟨[], .done (.ret (.ref f)), [], by kernel_rfl, by kernel_rfl, by kernel_rfl, fun h7 tk7 D7 => ?_⟩
  have up7 : ∀ b o, h4.get? b = some o → h7.get? b = some o := fun b o e => D7.keep _ _ e (by simp [X.away])
  exact hq f h7 tk7 (fun b o e => up7 _ _ (k4 _ _ (up3 _ _ e))) (up7 _ _ e4)
end
section
-- text N51
open PySem PySem.W PyProof.Rows PySem.Calls PySem.W.X
set_option maxHeartbeats 0
section
variable {prog : Program} {w : World} {A : Around} {E : Value → Shared → Prop} {s : Shared}
theorem run_code {c : Code} {g : Bool} {l : List Value} {Q : Result → Shared → Prop}
    (h : wpAny (model prog w) ((A.mark none).under c) (denote table c) (FinP prog w (A.mark none) Q) (fun e s' => Q (.error e) s') s) :
    wpAny (model prog w) A (.call c none g l Sem.pure) Q E s := by
  refine X.x_call ?_ (by intro h; cases h)
  refine X.x_code (wpAny_mono h (fun fin s' h' => ?_) fun e s' h' => X.x_pure h')
  cases fin with
  | done f => exact X.x_pure h'
  | again c' => exact ⟨h'.1, fun Γ p hc hΓ => wpCode_mono (fun r s'' q => (X.x_pure q : wpAny (model prog w) A (Sem.pure r) Q E s'')) (h'.2 Γ p hc hΓ)⟩
theorem run_again {id : String} {args : Args} {b : Builtin} {R : Result → Shared → Prop} (hb : entryFor table id = some b)
    (h : wpAny (model prog w) (A.under (.builtin id args)) (b args) (FinP prog w A R) (fun e s' => R (.error e) s') s) : codeAny (model prog w) A (.builtin id args) R s :=
  codeAny_builtinAt hb (wpAt_of_wpAny h)
end
theorem call_type_spec (w : World) (A : Around) (E : Value → Shared → Prop) (Q : Result → Shared → Prop) (s : Shared) (hs : Nat → Int) (ts : Nat → Tok) (fs : Nat → Addr) (dt : Nat → Data) (sl : Nat → Array (Option Value)) (bt k : Addr) (g : Bool) (lv : List Value)
   (hK : (Mine.heap39 w.params).In s.heap) (hold : OldOk s.heap [] (olds3 ts hs fs dt sl bt (k + 86)))
   (hq : ∀ (a n2 m : Addr) (h' : Heap) (tk' tk0 : Nat), (∀ b o, s.heap.get? b = some o → h'.get? b = some o) → s.heap.get? a = none → s.heap.get? n2 = none → s.heap.get? m = none →
     h'.get? a = some (clsO a n2 bt (ts 40) (ts 21)) → h'.get? n2 = some (ns2O hs ts fs m (reduceHash (w.params.strHash (Str.ofString "obj").cps)) (reduceHash (w.params.strHash (Str.ofString "__doc__").cps)) (tk0 + 1) (tk0 + 2)) → h'.get? m = some (mO a tk0) →
     Q (.ok (.ret (.ref a))) { s with heap := h', toks := tk' }) :
   wpAny (model PySem.Challenge.rw_in0045_01.row.prog w) A (.call (.call (.type "type") ⟨[.str (Str.ofString "K") (ts 40), .ref bt, .ref (k + 86)], []⟩) none g lv Sem.pure) Q E s := by
  k_fill
  have D := X.Mem.start s.heap
  refine run_code ?_
  with_reducible refine stV hold D 0 [] ?_
  refine ⟨[], .again (.builtin "type.__call__" ⟨[.type "type", .str (Str.ofString "K") (ts 40), .ref bt, .ref (k + 86)], []⟩), [], by kernel_rfl, by kernel_rfl, by kernel_rfl, fun h tk D => ?_⟩
  refine ⟨by kernel_rfl, run_again (b := Builtin.«type.__call__») (entryFor_of_tree (by kernel_rfl)) ?_⟩
  with_reducible refine stC hold D 0 [] ?_
  refine ⟨[], (.call (.builtin "type.__new__") ⟨[.type "type", .str (Str.ofString "K") (ts 40), .ref bt, .ref (k + 86)], []⟩, none, false, []), [], by kernel_rfl, by kernel_rfl, by kernel_rfl, fun h1 tk1 D1 => ?_⟩
  have up1 : ∀ b o, s.heap.get? b = some o → h1.get? b = some o := fun b o e => D1.keep _ _ e (by simp [X.away])
  have hold1 := hold.more up1
  have D1 := X.Mem.start h1
  refine run_builtin (b := Builtin.«type.__new__») (entryFor_of_tree (by kernel_rfl)) (by kernel_rfl) ?_
  with_reducible refine stV hold1 D1 0 [] ?_
  refine ⟨[], ⟨⟩, [], by kernel_rfl, by kernel_rfl, by kernel_rfl, fun h2 tk2 D2 => ?_⟩
  have up2 : ∀ b o, s.heap.get? b = some o → h2.get? b = some o := fun b o e => D2.keep _ _ (up1 _ _ e) (by simp [X.away])
  refine new_spec _ w _ _ _ _ hs ts fs dt sl bt k (collect_is w _ _) (super_is w _ _) _ (get_is w _ _) (hK.keeps up2) (init_is w _ _) (hold.more up2) ?_
  intro a n2 m h3 tk3 tk0 up3 fa fn fm ea en em
  have hold3 : OldOk h3 [] [(a, clsO a n2 bt (ts 40) (ts 21))] := by
    intro p hp
    obtain rfl := List.mem_singleton.mp hp
    exact ⟨ea, by simp [X.away]⟩
  have D3 := X.Mem.start h3
  show wpAny (model PySem.Challenge.rw_in0045_01.row.prog w) _ (kOf _ _) _ _ _
  with_reducible refine stC hold3 D3 0 [500,500] ?_
  refine ⟨[a, a], (.call (.builtin "type.__init__") ⟨[.ref a, .str (Str.ofString "K") (ts 40), .ref bt, .ref (k + 86)], []⟩, none, false, [.ref a, .ref a, .ref bt, .ref (k + 86)]), [], by kernel_rfl, by kernel_rfl, by kernel_rfl, fun h4 tk4 D4 => ?_⟩
  have up4 : ∀ b o, h3.get? b = some o → h4.get? b = some o := fun b o e => D4.keep _ _ e (by simp [X.away])
  have hold4 := hold3.more up4
  have D4 := X.Mem.start h4
  refine run_builtin (b := Builtin.«type.__init__») (entryFor_of_tree (by kernel_rfl)) (by kernel_rfl) ?_
  with_reducible refine stV hold4 D4 0 [500] ?_
  refine ⟨[a], ⟨⟩, [], by kernel_rfl, by kernel_rfl, by kernel_rfl, fun h5 tk5 D5 => ?_⟩
  have up5 : ∀ b o, h4.get? b = some o → h5.get? b = some o := fun b o e => D5.keep _ _ e (by simp [X.away])
  have hold5 := hold4.more up5
  have D5 := X.Mem.start h5
  with_reducible refine stV hold5 D5 0 [] ?_
  refine ⟨[], .done (.ret .none), [], by kernel_rfl, by kernel_rfl, by kernel_rfl, fun h6 tk6 D6 => ?_⟩
  have up6 : ∀ b o, h5.get? b = some o → h6.get? b = some o := fun b o e => D6.keep _ _ e (by simp [X.away])
  have hold6 := hold5.more up6
  have D6 := X.Mem.start h6
  show wpAny (model PySem.Challenge.rw_in0045_01.row.prog w) _ (kOf _ _) _ _ _
  with_reducible refine stV hold6 D6 0 [] ?_
  refine ⟨[], .done (.ret (.ref a)), [], by kernel_rfl, by kernel_rfl, by kernel_rfl, fun h7 tk7 D7 => ?_⟩
  have up7 : ∀ b o, h3.get? b = some o → h7.get? b = some o := fun b o e => D7.keep _ _ (up6 _ _ (up5 _ _ (up4 _ _ e))) (by simp [X.away])
  exact hq a n2 m h7 tk7 tk0 (fun b o e => up7 _ _ (up3 _ _ (up2 _ _ e))) (none_of up2 fa) (none_of up2 fn) (none_of up2 fm) (up7 _ _ ea) (up7 _ _ en) (up7 _ _ em)
end
section
-- text N54
open PySem PySem.W PyProof.Rows PySem.Calls PySem.W.X
set_option maxHeartbeats 0
def pO : Obj := { cls := .type "builtin_function_or_method", data := .fields #[.builtin "type.__prepare__", .type "type"] }
def nsE : Obj := { cls := .type "dict", data := .dict #[] 0 }
theorem no_old {h₀ : Heap} {chg : List (Addr × Obj)} : OldOk h₀ chg [] := fun p hp => nomatch hp
theorem prepM (w : World) (A : Around) (E : Value → Shared → Prop) (Q : Result → Shared → Prop) (s : Shared) (h₀ : Heap) (chg nw : List (Addr × Obj)) (t : Tok) (g : Bool) (lv : List Value) (D : X.Mem h₀ s.heap chg nw)
  (hq : ∀ (p : Addr) (h' : Heap) (tk' : Tok), X.Mem h₀ h' chg ((p, pO) :: nw) → Q (.ok (.ret (.ref p))) { s with heap := h', toks := tk' }) :
   wpAny (model PySem.Challenge.rw_in0045_01.row.prog w) A (.call (.call (.builtin "type.__getattribute__") ⟨[.type "type", .str (Str.ofString "__prepare__") t], []⟩) none g lv Sem.pure) Q E s := by
  k_fill
  have hold := no_old (h₀ := h₀) (chg := chg)
  refine run_builtin (b := Builtin.«type.__getattribute__») (entryFor_of_tree (by kernel_rfl)) (by kernel_rfl) ?_
  with_reducible refine stV hold D 0 [] ?_
  refine ⟨[], ⟨⟩, nw, by kernel_rfl, by kernel_rfl, by kernel_rfl, fun h tk3 D => ?_⟩
  with_reducible refine stC hold D 0 [] ?_
  refine ⟨[], (.call (.builtin "classmethod_descriptor.__get__") ⟨[.builtin "type.__prepare__", .none, .type "type"], []⟩, none, false, []), nw, by kernel_rfl, by kernel_rfl, by kernel_rfl, fun h tk4 D => ?_⟩
  refine run_builtin (b := Builtin.«classmethod_descriptor.__get__») (entryFor_of_tree (by kernel_rfl)) (by kernel_rfl) ?_
  with_reducible refine stV hold D 0 [] ?_
  refine ⟨[], ⟨⟩, nw, by kernel_rfl, by kernel_rfl, by kernel_rfl, fun h tk5 D => ?_⟩
  with_reducible refine stV hold D 1 [] ?_
  refine (fun p => ⟨[], .done (.ret (.ref p)), (p, pO) :: nw, by kernel_rfl, by kernel_rfl, by kernel_rfl, fun h tk6 D => ?_⟩)
  show wpAny (model PySem.Challenge.rw_in0045_01.row.prog w) _ (kOf _ _) _ _ _
  with_reducible refine stV hold D 0 [] ?_
  refine ⟨[], .done (.ret (.ref p)), (p, pO) :: nw, by kernel_rfl, by kernel_rfl, by kernel_rfl, fun h tk7 D => ?_⟩
  exact hq p _ _ D
theorem split86 {h₀ h : Heap} {ns p bt : Addr} {o1 o2 o3 o4 : Obj} (D : X.Mem h₀ h [] [(ns, o1), (p, o2), (bt, o3), (85, o4)]) : ∃ k, ns = k + 86 := by
  have this : @LT.lt Nat instLTNat 85 ns := (List.pairwise_cons.mp D.ord).1 85 (.tail _ (.tail _ (.head _)))
  exact ⟨ns - 86, (Nat.sub_add_cancel (show 86 ≤ ns from this)).symm⟩
theorem prep2M (w : World) (A : Around) (E : Value → Shared → Prop) (Q : Result → Shared → Prop) (s : Shared) (h₀ : Heap) (p bt : Addr) (t : Tok) (g : Bool) (lv : List Value) (D : X.Mem h₀ s.heap [] [(p, pO), (bt, kTup (.type "object")), (85, tabObj #[])])
  (hq : ∀ (k : Addr) (h' : Heap) (tk' : Tok), X.Mem h₀ h' [] [(k + 86, nsE), (p, pO), (bt, kTup (.type "object")), (85, tabObj #[])] → Q (.ok (.ret (.ref (k + 86)))) { s with heap := h', toks := tk' }) :
   wpAny (model PySem.Challenge.rw_in0045_01.row.prog w) A (.call (.call (.ref p) ⟨[.str (Str.ofString "K") t, .ref bt], []⟩) none g lv Sem.pure) Q E s := by
  k_fill
  have hold := no_old (h₀ := h₀) (chg := [])
  refine run_code ?_
  with_reducible refine stV hold D 0 [2] ?_
  refine ⟨[p], .again (.builtin "type.__prepare__" ⟨[.type "type", .str (Str.ofString "K") t, .ref bt], []⟩), [(p, pO), (bt, kTup (.type "object")), (85, tabObj #[])], by kernel_rfl, by kernel_rfl, by kernel_rfl, fun h tk D => ?_⟩
  refine ⟨by kernel_rfl, run_again (b := Builtin.«type.__prepare__») (entryFor_of_tree (by kernel_rfl)) ?_⟩
  with_reducible refine stV hold D 1 [] ?_
  refine (fun ns => ⟨[], .done (.ret (.ref ns)), [(ns, nsE), (p, pO), (bt, kTup (.type "object")), (85, tabObj #[])], by kernel_rfl, by kernel_rfl, by kernel_rfl, fun h tk6 D => ?_⟩)
  obtain ⟨k, rfl⟩ := split86 D
  exact hq k _ _ D
end
section
-- text P45
open PySem PySem.W PyProof.Rows PySem.Calls
set_option maxHeartbeats 8000000
abbrev mr (m : Str → Option Value) (v : Value) (uk : Option Value) : Str → Option Value := fun y => if y = Str.ofString "value" then some v else if y = Str.ofString "element" then uk else m y
theorem mr_start {m : Str → Option Value} {v : Value} : (fun y => if y = Str.ofString "value" then some v else m y) = mr m v (m (Str.ofString "element")) := by
  funext y
  by_cases h : y = Str.ofString "value"
  · simp [mr, h]
  · by_cases h2 : y = Str.ofString "element"
    · subst h2; simp [mr]
    · simp [mr, h, h2]
theorem mr_turn {m : Str → Option Value} {v v' : Value} {uk kv : Option Value} : (fun y => if y = Str.ofString "value" then some v' else if y = Str.ofString "element" then kv else mr m v uk y) = mr m v' kv := by
  funext y
  by_cases h : y = Str.ofString "value"
  · simp [mr, h]
  · by_cases h2 : y = Str.ofString "element"
    · simp [mr, h2]
    · simp [mr, h, h2]
end
section
-- text W45
open PySem PySem.W PyProof.Rows PySem.Calls
set_option maxHeartbeats 8000000
def Stop (P : Prop) : Prop := P
theorem Stop.go {P : Prop} (h : Stop P) : P := h
theorem Stop.out {P : Prop} (h : P) : Stop P := h
section
variable {prog : Program} {w : World} {A : Around} {E : Value → Shared → Prop} {s : Shared} {env : Env} {test : PySem.Expr} {body : List Stmt} {Q : Flow → Shared → Prop}
theorem while_ind {pos : Pos} (n : Nat) (J : Nat → Shared → Prop) (hE : PassesOwn (model prog w) A env E) (h0 : J 0 s)
    (turn : ∀ i s, i < n → J i s → wpAny (model prog w) A (isTrue test env (eval test env)) (fun b s₂ => b = true ∧ wpAny (model prog w) A (execs body env) (fun f s₃ => f = .next ∧ J (i + 1) s₃) E s₂) E s)
    (last : ∀ s, J n s → wpAny (model prog w) A (isTrue test env (eval test env)) (fun b s₂ => b = false ∧ Q .next s₂) E s) :
    wpAny (model prog w) A (exec (.While test body [] pos) env) Q E s := by
  have key : ∀ k i s, k + i = n → J i s → WhlRest prog w A E env test body [] Q (k + 1) s := by
    intro k
    induction k with
    | zero =>
      intro i s hi hJ
      obtain rfl : i = n := by omega
      exact whl_turn hE (wpAny_mono (last s hJ) (fun b s₂ h => WhlIf.no h.1 (wpAny_execs_nil h.2)) fun _ _ e => e)
    | succ k ih =>
      intro i s hi hJ
      refine whl_turn hE (wpAny_mono (turn i s (by omega) hJ) (fun b s₂ h => WhlIf.yes h.1 (wpAny_mono h.2 (fun f s₃ h₃ => ?_) fun _ _ e => e)) fun _ _ e => e)
      obtain ⟨rfl, hJ'⟩ := h₃
      exact ih (i + 1) s₃ (by omega) hJ'
  exact whl_start (n + 1) (key n 0 s (by omega) h0)
end
end
section
-- text D45
open PySem PySem.W PyProof.Rows PySem.Calls
set_option maxHeartbeats 8000000
theorem small_line {n : Nat} (h : n ≤ 1000) : n ≤ sizeLine := by rw [sizeLine_eq]; omega
section
variable {prog : Program} {w : World} {A : Around} {E : Value → Shared → Prop} {s : Shared} {h₀ : Heap} {L : Addr} {m : Str → Option Value} {news : List (Addr × Obj)}
theorem isList_of {l : Addr} {its : Array Value} {n : Nat} {h : Heap} (N : News h₀ L h news) (hm : (l, ({ cls := .type "list", data := .seq its n } : Obj)) ∈ news) : h.IsList l its := ⟨_, N.get hm, rfl, n, rfl⟩
theorem item_last {l : Addr} {its : Array Value} {n : Nat} {v : Value} {u : Tok} {value slice : Expr} {Q : Value → Shared → Prop} (N : News h₀ L s.heap news) (hm : (l, ({ cls := .type "list", data := .seq (its.push v) n } : Obj)) ∈ news) (hs : its.size ≤ 8) (h : Q v s)
    (hsub : subscripted slice false (.ref l) (.int (-1) u) = operate [.ref l, .int (-1) u] (getItem (.ref l) (.int (-1) u)) := by with_unfolding_all rfl) :
    wpAny (model prog w) A (subscriptTail value slice (.ref l) (.int (-1) u)) Q E s := by
  have hl := isList_of N hm
  refine tail_any hl.typeIs slot_list_getitem.lookup (wpAny_getItem_list_neg hl (by decide) ?_ (by decide) ?_ h) hsub
  · rw [Array.size_push]; omega
  · rw [Array.size_push]
    have e : ((-1 : Int) + ((its.size + 1 : Nat) : Int)).toNat = its.size := by omega
    rw [e]; simp
theorem truthy_known {l : Addr} {its : Array Value} {n : Nat} {Q : Bool → Shared → Prop} (b : Bool) (N : News h₀ L s.heap news) (hm : (l, ({ cls := .type "list", data := .seq its n } : Obj)) ∈ news) (hs : its.size ≤ 8) (hb : (!its.isEmpty) = b)
    (h : ∀ k, Q b { s with toks := k }) : wpAny (model prog w) A (truthy (.ref l)) Q E s := by
  refine wpAny_truthy_list (isList_of N hm) (by omega) ?_
  rw [hb]; exact h _
theorem item_nat {x : Str} {i c : Nat} (hx : x.cps[i]? = some c) : Txt.item x (i : Int) = ⟨#[c]⟩ := by
  have hlt : i < x.cps.size := (Array.getElem?_eq_some_iff.mp hx).1
  have e : seqIndex? (i : Int) x.length = some i := by
    unfold seqIndex?
    have : (i : Int) < (x.length : Int) := by show (i : Int) < (x.cps.size : Int); omega
    simp
    omega
  unfold Txt.item Txt.charAt
  rw [e]
  simp [hx]
theorem item_at {x : Str} {i c : Nat} {t u : Tok} {value slice : Expr} {Q : Value → Shared → Prop} (hx : x.cps[i]? = some c) (hi : i ≤ 1000)
    (h : ∀ t' k', Q (.str ⟨#[c]⟩ t') { s with toks := k' })
    (hs : subscripted slice false (.str x t) (.int (i : Int) u) = operate [.str x t, .int (i : Int) u] (getItem (.str x t) (.int (i : Int) u)) := by with_unfolding_all rfl)
    (ht : ∀ r, letTemporaryGo value (.str x t) r = pure () := by intro _; with_unfolding_all rfl) :
    wpAny (model prog w) A (subscriptTail value slice (.str x t) (.int (i : Int) u)) Q E s := by
  have hlt : i < x.cps.size := (Array.getElem?_eq_some_iff.mp hx).1
  refine item_str ?_ (by show -((x.cps.size : Nat) : Int) ≤ (i : Int); omega) (by show (i : Int) < ((x.cps.size : Nat) : Int); omega) (fun _ => ?_) hs ht
  · unfold fitsSsize
    simp
    omega
  · rw [item_nat hx]; exact h _ _
end
inductive Part where
  | star | any | sign (c : Nat)
deriving DecidableEq
def Part.Is : Part → Value → Prop
  | .star, v => v = .none
  | .any, v => ∃ t, v = .str (Str.ofString "any") t
  | .sign c, v => ∃ t, v = .str ⟨#[c]⟩ t
inductive PAre : List Value → List Part → Prop where
  | nil : PAre [] []
  | cons {v p vs ps} : Part.Is p v → PAre vs ps → PAre (v :: vs) (p :: ps)
theorem PAre.length {vs ps} (h : PAre vs ps) : vs.length = ps.length := by induction h <;> simp_all
theorem PAre.snoc {vs ps v p} (h : PAre vs ps) (hp : Part.Is p v) : PAre (vs ++ [v]) (ps ++ [p]) := by
  induction h with
  | nil => exact .cons hp .nil
  | cons a _ ih => exact .cons a ih
theorem PAre.last {vs ps p} (h : PAre vs (ps ++ [p])) : ∃ us v, vs = us ++ [v] ∧ Part.Is p v ∧ PAre us ps := by
  induction ps generalizing vs with
  | nil =>
    cases h with
    | cons a b => cases b; exact ⟨[], _, rfl, a, .nil⟩
  | cons q ps ih =>
    cases h with
    | cons a b =>
      obtain ⟨us, v, rfl, hv, hu⟩ := ih b
      exact ⟨_ :: us, v, rfl, hv, .cons a hu⟩
theorem its_nil {its : Array Value} (h : PAre its.toList []) : its = #[] := by
  obtain ⟨l⟩ := its
  cases h; rfl
theorem its_snoc {its : Array Value} {ps : List Part} {p : Part} (h : PAre its.toList (ps ++ [p])) : ∃ ys v, its = Array.push ys v ∧ Part.Is p v ∧ ys.size + 1 = its.size := by
  obtain ⟨us, v, e, hv, _⟩ := h.last
  refine ⟨us.toArray, v, ?_, hv, ?_⟩
  · obtain ⟨l⟩ := its
    have e' : l = us ++ [v] := e
    rw [e']; simp
  · obtain ⟨l⟩ := its
    have e' : l = us ++ [v] := e
    rw [e']; simp
theorem its_cases {its : Array Value} {ps : List Part} (h : PAre its.toList ps) (hs : its.size ≤ 8) :
    (its = #[] ∧ ps.getLast? ≠ some .star) ∨ (∃ ys, its = Array.push ys .none ∧ ys.size ≤ 8 ∧ ps.getLast? = some .star) ∨ (∃ ys x t, its = Array.push ys (.str x t) ∧ ys.size ≤ 8 ∧ ps.getLast? ≠ some .star) := by
  rcases List.eq_nil_or_concat ps with rfl | ⟨qs, p, rfl⟩
  · exact .inl ⟨its_nil h, by simp⟩
  · rw [List.concat_eq_append] at h ⊢
    obtain ⟨ys, v, rfl, hv, hz⟩ := its_snoc h
    have hy : ys.size ≤ 8 := by omega
    cases p with
    | star => exact .inr (.inl ⟨ys, by rw [show v = Value.none from hv], hy, by simp⟩)
    | any => obtain ⟨t, e⟩ := hv; exact .inr (.inr ⟨ys, _, t, by rw [e], hy, by simp⟩)
    | sign c => obtain ⟨t, e⟩ := hv; exact .inr (.inr ⟨ys, _, t, by rw [e], hy, by simp⟩)
/-- one sign more: a star behind a star stands once -/
def addSign (ps : List Part) (c : Nat) : List Part :=
  if c = 42 then (if ps.getLast? = some .star then ps else ps ++ [.star]) else if c = 63 then ps ++ [.any] else ps ++ [.sign c]
def trans (cs : List Nat) : List Part := cs.foldl addSign []
theorem addSign_len (ps : List Part) (c : Nat) : (addSign ps c).length ≤ ps.length + 1 := by
  unfold addSign
  split
  · split <;> simp
  · split <;> simp
end
section
-- text E45
open PySem PySem.W PyProof.Rows PySem.Calls
set_option maxHeartbeats 8000000
abbrev mm (m : Str → Option Value) (i : Nat) (ti : Tok) (uc : Option Value) : Str → Option Value := fun y => if y = Str.ofString "i" then some (.int (i : Int) ti) else if y = Str.ofString "c" then uc else m y
abbrev lobj (its : Array Value) (n : Nat) : Obj := { cls := .type "list", data := .seq its n }
theorem mm_turn {m : Str → Option Value} {i : Nat} {ti t : Tok} {uc : Option Value} {v : Value} :
    (fun y => if y = Str.ofString "i" then some (Value.int ((i : Int) + 1) t) else if y = Str.ofString "c" then some v else mm m i ti uc y) = mm m (i + 1) t (some v) := by
  funext y
  show (if y = Str.ofString "i" then some (Value.int ((i : Int) + 1) t) else if y = Str.ofString "c" then some v else if y = Str.ofString "i" then _ else if y = Str.ofString "c" then uc else m y) =
    (if y = Str.ofString "i" then some (Value.int (((i + 1 : Nat) : Int)) t) else if y = Str.ofString "c" then some v else m y)
  by_cases e1 : y = Str.ofString "i"
  · rw [if_pos e1, if_pos e1]; rfl
  · rw [if_neg e1, if_neg e1, if_neg e1]
    by_cases e2 : y = Str.ofString "c"
    · rw [if_pos e2, if_pos e2]
    · rw [if_neg e2, if_neg e2, if_neg e2]
def TrSt (s : Shared) (h₀ : Heap) (L : Addr) (m : Str → Option Value) (u l : Addr) (cs : List Nat) (i : Nat) (s' : Shared) : Prop :=
  ∃ h tk its n uc ti, s' = { s with heap := h, toks := tk } ∧ Fr h₀ L h (mm m i ti uc) ∧ News h₀ L h [(u, bnd "list.append" (.ref l)), (l, lobj its n)] ∧ PAre its.toList (trans (cs.take i))
theorem TrSt.intro {s : Shared} {h₀ h : Heap} {L u l : Addr} {m m' : Str → Option Value} {cs : List Nat} {i n tk : Nat} {its : Array Value} {news : List (Addr × Obj)} (uc : Option Value) (ti : Tok) (F : Fr h₀ L h m') (N : News h₀ L h news)
    (h1 : (u, bnd "list.append" (.ref l)) ∈ news) (h2 : (l, lobj its n) ∈ news) (hm : m' = mm m i ti uc) (hp : PAre its.toList (trans (cs.take i))) : TrSt s h₀ L m u l cs i { s with heap := h, toks := tk } :=
  ⟨h, tk, its, n, uc, ti, rfl, hm ▸ F, fun p hp => by
    rcases List.mem_cons.mp hp with rfl | hp
    · exact N _ h1
    · rw [List.mem_singleton.mp hp]; exact N _ h2, hp⟩
theorem trans_take {cs : List Nat} {i c : Nat} (hc : cs[i]? = some c) : trans (cs.take (i + 1)) = addSign (trans (cs.take i)) c := by
  unfold trans
  rw [List.take_add_one, hc]; simp
theorem trans_len (cs : List Nat) : (trans cs).length ≤ cs.length := by
  have key : ∀ (cs : List Nat) (ps : List Part), (cs.foldl addSign ps).length ≤ ps.length + cs.length := by
    intro cs
    induction cs with
    | nil => intro ps; simp
    | cons c r ih => intro ps; rw [List.foldl_cons, List.length_cons]; have := ih (addSign ps c); have := addSign_len ps c; omega
  have := key cs []
  unfold trans
  simpa using this
section
variable {prog : Program} {w : World} {A : Around} {E : Value → Shared → Prop} {s : Shared} {env : Env} {test : PySem.Expr} {body : List Stmt} {Q : Flow → Shared → Prop} {h₀ : Heap} {L u l : Addr} {m : Str → Option Value}
theorem tr_loop {pos : Pos} {t0 : Tok} {news : List (Addr × Obj)} (cs : List Nat) (hl : cs.length = 3) (hE : PassesOwn (model prog w) A env E)
    (F : Fr h₀ L s.heap (fun y => if y = Str.ofString "i" then some (.int 0 t0) else m y)) (N : News h₀ L s.heap news) (h1 : (u, bnd "list.append" (.ref l)) ∈ news) (h2 : (l, lobj #[] 0) ∈ news)
    (turn : ∀ i c h tk its n uc ti, i < 3 → cs[i]? = some c → PAre its.toList (trans (cs.take i)) → its.size ≤ 8 → Fr h₀ L h (mm m i ti uc) → News h₀ L h [(u, bnd "list.append" (.ref l)), (l, lobj its n)] →
      wpAny (model prog w) A (isTrue test env (eval test env)) (fun b s₂ => b = true ∧ wpAny (model prog w) A (execs body env) (fun f s₃ => f = .next ∧ TrSt s h₀ L m u l cs (i + 1) s₃) E s₂) E { s with heap := h, toks := tk })
    (last : ∀ h tk its n uc ti, PAre its.toList (trans cs) → its.size ≤ 8 → Fr h₀ L h (mm m 3 ti uc) → News h₀ L h [(u, bnd "list.append" (.ref l)), (l, lobj its n)] →
      wpAny (model prog w) A (isTrue test env (eval test env)) (fun b s₂ => b = false ∧ Q .next s₂) E { s with heap := h, toks := tk }) :
    wpAny (model prog w) A (exec (.While test body [] pos) env) Q E s := by
  have size : ∀ {its : Array Value} {i : Nat}, PAre its.toList (trans (cs.take i)) → its.size ≤ 8 := fun {its i} hp => by
    have a := hp.length
    have b := trans_len (cs.take i)
    have c : (cs.take i).length ≤ 3 := by rw [List.length_take]; omega
    rw [Array.length_toList] at a
    omega
  refine while_ind 3 (TrSt s h₀ L m u l cs) hE ?_ ?_ ?_
  · refine ⟨s.heap, s.toks, #[], 0, m (Str.ofString "c"), t0, rfl, ?_, fun p hp => ?_, .nil⟩
    · have e : mm m 0 t0 (m (Str.ofString "c")) = (fun y => if y = Str.ofString "i" then some (.int 0 t0) else m y) := by
        funext y
        show (if y = Str.ofString "i" then some (Value.int ((0 : Nat) : Int) t0) else if y = Str.ofString "c" then m (Str.ofString "c") else m y) = _
        by_cases e1 : y = Str.ofString "i"
        · rw [if_pos e1, if_pos e1]; rfl
        · rw [if_neg e1, if_neg e1]
          by_cases e2 : y = Str.ofString "c"
          · rw [if_pos e2, e2]
          · rw [if_neg e2]
      rw [e]; exact F
    · rcases List.mem_cons.mp hp with rfl | hp
      · exact N _ h1
      · rw [List.mem_singleton.mp hp]; exact N _ h2
  · rintro i _ hi ⟨h, tk, its, n, uc, ti, rfl, F', N', hp⟩
    obtain ⟨c, hc⟩ : ∃ c, cs[i]? = some c := ⟨cs[i]'(by omega), List.getElem?_eq_getElem _⟩
    exact turn i c h tk its n uc ti hi hc hp (size hp) F' N'
  · rintro _ ⟨h, tk, its, n, uc, ti, rfl, F', N', hp⟩
    exact last h tk its n uc ti (by rw [List.take_of_length_le (by omega)] at hp; exact hp) (size hp) F' N'
end
end
section
-- text L45
open PySem PySem.W PyProof.Rows PySem.Calls
set_option maxHeartbeats 8000000
def TurnJ (h₀ : Heap) (L I : Addr) (oI : Obj) (Jn : (Str → Option Value) → List (Addr × Obj) → Prop) (s s₂ : Shared) : Prop :=
  ∃ h' tk' m' nw', s₂ = { s with heap := h', toks := tk' } ∧ Fr h₀ L h' m' ∧ News h₀ L h' ((I, oI) :: nw') ∧ (∀ p ∈ nw', p.1 ≠ I) ∧ Jn m' nw'
theorem TurnJ.list {h₀ h' : Heap} {L I o : Addr} {oI : Obj} {ws : Array Value} {n tk' : Nat} {Jn : (Str → Option Value) → List (Addr × Obj) → Prop} {s : Shared} {m' : Str → Option Value} {all : List (Addr × Obj)} (hc : oI.cls = .type "range_iterator")
    (F : Fr h₀ L h' m') (N : News h₀ L h' all) (h1 : (I, oI) ∈ all) (h2 : (o, lobj ws n) ∈ all) (hJ : Jn m' [(o, lobj ws n)]) : TurnJ h₀ L I oI Jn s { s with heap := h', toks := tk' } := by
  refine ⟨h', tk', m', [(o, lobj ws n)], rfl, F, fun p hp => ?_, fun p hp e => ?_, hJ⟩
  · rcases List.mem_cons.mp hp with rfl | hp
    · exact N _ h1
    · rw [List.mem_singleton.mp hp]; exact N _ h2
  · rw [List.mem_singleton.mp hp] at e
    have e' : o = I := e
    subst e'
    have := Option.some.inj ((N.get h2).symm.trans (N.get h1))
    rw [← this] at hc
    have q : "list" = "range_iterator" := Value.type.inj hc
    exact absurd q (by decide)
theorem range_small_all : ∀ n : Nat, n < 65 → Builtin.Range.rangeSize 0 (n : Int) 1 = (n : Int) ∧ Builtin.Range.small 0 (n : Int) 1 = true := by decide +kernel
theorem range_small {n : Nat} (h : n ≤ 64) : Builtin.Range.rangeSize 0 (n : Int) 1 = (n : Int) ∧ Builtin.Range.small 0 (n : Int) 1 = true := range_small_all n (by omega)
section
variable {prog : Program} {w : World} {A : Around} {E : Value → Shared → Prop} {s : Shared} {env : Env} {h₀ : Heap} {x : Str} {body : List Stmt} {Q : Flow → Shared → Prop}
theorem loopAt_J {I : Addr} {n : Nat} {P : Nat → Value → Prop} {St : Nat → Heap → Prop} {fp : List Addr} {m₀ : Str → Option Value} {news : List (Addr × Obj)} (J : Nat → (Str → Option Value) → List (Addr × Obj) → Prop)
    (W : Walks prog w A I fp [I] n P St) (hfp : ∀ b ∈ fp, b = I ∨ ∃ o, h₀.get? b = some o) (hL : env.locals ≠ I) (hI₀ : h₀.get? I = none) (c₀ : Value) (hIo : ∀ i h, St i h → ∃ o, h.get? I = some o ∧ o.cls = c₀) (hst : St 0 s.heap)
    (F : Fr h₀ env.locals s.heap m₀) (N : News h₀ env.locals s.heap news) (hnw : ∀ p ∈ news, p.1 ≠ I) (hJ : J 0 m₀ news)
    (turn : ∀ i v oI m₁ nw h tk, oI.cls = c₀ → i < n → P i v → J i m₁ nw → (∀ p ∈ nw, p.1 ≠ I) → Fr h₀ env.locals h (fun y => if y = x then some v else m₁ y) → News h₀ env.locals h ((I, oI) :: nw) →
      wpAny (model prog w) A (execs body env) (fun f s₂ => f = .next ∧ TurnJ h₀ env.locals I oI (J (i + 1)) s s₂) E { s with heap := h, toks := tk })
    (done : ∀ m₁ nw h tk, J n m₁ nw → Fr h₀ env.locals h m₁ → News h₀ env.locals h nw → Q .next { s with heap := h, toks := tk }) : LoopAtV prog w A h₀ env x body Q E (.ref I) s := by
  have hLfp : env.locals ∉ fp := fun h => by
    rcases hfp _ h with e | ⟨o, e⟩
    · exact hL e
    · exact absurd (Nat.lt_of_lt_of_le (Heap.lt_size e) F.above) (Nat.lt_irrefl _)
  refine ⟨I, fp, [I], n, P, St, m₀, news, J, rfl, W, hLfp, fun b hb => by rw [List.mem_singleton.mp hb]; exact hI₀, fun p hp hm => hnw p hp (List.mem_singleton.mp hm), hst, F, N, hJ, ?_, ?_⟩
  · rintro i v m₁ news₁ s₁ own ⟨hh', tk', rfl⟩ hin hP hJ' hoff hown hget hall hst₁ F₁ N₁
    obtain ⟨oI, hoI, hcI⟩ := hIo _ _ hst₁
    have hIfp : I ∈ fp := W.sub I (List.mem_singleton.mpr rfl)
    have hmI : (I, oI) ∈ own := hall I hIfp hI₀ oI hoI
    have hoff' : ∀ p ∈ news₁, p.1 ≠ I := fun p hp e => hoff p hp (List.mem_singleton.mpr e)
    have N₂ : News h₀ env.locals hh' ((I, oI) :: news₁) := fun p hp => by
      rcases List.mem_cons.mp hp with rfl | hp
      · exact N₁ _ (List.mem_append_left _ hmI)
      · exact N₁ _ (List.mem_append_right _ hp)
    refine wpAny_mono (turn i v oI m₁ news₁ hh' tk' hcI hin hP hJ' hoff' F₁ N₂) (fun f s₂ hp => ?_) fun _ _ e => e
    obtain ⟨rfl, h', tk, m', nw', rfl, F', N', ho', hJn⟩ := hp
    refine .next ⟨rfl, h', tk, m', nw', rfl, F', fun p hp => ?_, fun p hp e => ho' p hp (List.mem_singleton.mp e), hJn⟩
    rcases List.mem_append.mp hp with hp | hp
    · have hn := (N₁ p (List.mem_append_left _ hp))
      rcases hfp _ (hown p hp) with e | ⟨o, e⟩
      · have hg := hget p hp
        obtain ⟨pa, po⟩ := p
        have e' : pa = I := e
        subst e'
        have : po = oI := Option.some.inj (hg.symm.trans hoI)
        subst this
        exact N' _ (.head _)
      · rw [hn.2.2] at e; cases e
    · exact N' _ (.tail _ hp)
  · rintro h' tk m' news' F' N' _ hJ'
    exact done m' news' h' tk hJ' F' N'
theorem iter_rangeJ {r : Addr} {b : Int} {t₀ u₀ v₀ : Tok} {n : Nat} {m₀ : Str → Option Value} {news : List (Addr × Obj)} (J : Nat → (Str → Option Value) → List (Addr × Obj) → Prop)
    (hh : A.handled = none) (hr : IsRange s.heap r 0 b 1 t₀ u₀ v₀) (hb : b = (n : Int)) (hn : n ≤ 64) (F : Fr h₀ env.locals s.heap m₀) (N : News h₀ env.locals s.heap news) (hJ : J 0 m₀ news)
    (turn : ∀ i t I oI m₁ nw h tk, oI.cls = .type "range_iterator" → i < n → J i m₁ nw → (∀ p ∈ nw, p.1 ≠ I) → Fr h₀ env.locals h (fun y => if y = x then some (.int (i : Int) t) else m₁ y) → News h₀ env.locals h ((I, oI) :: nw) →
      wpAny (model prog w) A (execs body env) (fun f s₂ => f = .next ∧ TurnJ h₀ env.locals I oI (J (i + 1)) s s₂) E { s with heap := h, toks := tk })
    (done : ∀ m₁ nw h tk, J n m₁ nw → Fr h₀ env.locals h m₁ → News h₀ env.locals h nw → Q .next { s with heap := h, toks := tk }) :
    wpAny (model prog w) A (pyIter (.ref r)) (fun it s₂ => LoopAtV prog w A h₀ env x body Q E it s₂) E s := by
  subst hb
  obtain ⟨hrs, hsm⟩ := range_small hn
  refine wpAny_pyIter_range hr hsm ?_
  have W : Walks prog w A s.heap.objs.size [s.heap.objs.size] [s.heap.objs.size] n (fun i v => i < n ∧ ∃ t, v = .int (0 + i * 1) t)
      (fun i h => IsRangeIter h s.heap.objs.size (0 + (i : Nat) * 1) ((n : Int) - (i : Nat)) 1) := (Walks.range hh _ 0 1 n).bound
  refine loopAt_J (Q := Q) J W (fun b hb => .inl (List.mem_singleton.mp hb)) (fun e => absurd F.ns.lt (e ▸ Nat.lt_irrefl _)) (next_is_new F) (.type "range_iterator") (fun i h st => ⟨_, st, rfl⟩)
    (by show IsRangeIter _ _ _ _ _; rw [hrs]; simpa using Heap.get?_push_size _ rfl) (F.push _) (fun p hp => ⟨Heap.get?_push_of_some _ (N p hp).1, (N p hp).2⟩)
    (fun p hp e => absurd (Heap.lt_size (N p hp).1) (e ▸ Nat.lt_irrefl _)) hJ ?_ ?_
  · rintro i v oI m₁ nw h tk hc hi ⟨_, t, rfl⟩ hJ' ho F' N'
    have e : (0 : Int) + (i : Int) * 1 = (i : Int) := by omega
    rw [e] at F'
    exact turn i t _ oI m₁ nw h tk hc hi hJ' ho F' N'
  · exact done
end
end
section
-- text M45
open PySem PySem.W PyProof.Rows PySem.Calls
set_option maxHeartbeats 8000000
abbrev mo (m : Str → Option Value) (o : Addr) (uk : Option Value) : Str → Option Value := fun y => if y = Str.ofString "out" then some (.ref o) else if y = Str.ofString "k" then uk else m y
theorem mo_start {m : Str → Option Value} {o : Addr} : (fun y => if y = Str.ofString "out" then some (Value.ref o) else m y) = mo m o (m (Str.ofString "k")) := by
  funext y
  show (if y = Str.ofString "out" then some (Value.ref o) else m y) = (if y = Str.ofString "out" then some (Value.ref o) else if y = Str.ofString "k" then m (Str.ofString "k") else m y)
  by_cases e1 : y = Str.ofString "out"
  · rw [if_pos e1, if_pos e1]
  · rw [if_neg e1, if_neg e1]
    by_cases e2 : y = Str.ofString "k"
    · rw [if_pos e2, e2]
    · rw [if_neg e2]
theorem mo_k {m : Str → Option Value} {o : Addr} {uk kv : Option Value} : (fun y => if y = Str.ofString "k" then kv else mo m o uk y) = mo m o kv := by
  funext y
  show (if y = Str.ofString "k" then kv else if y = Str.ofString "out" then some (Value.ref o) else if y = Str.ofString "k" then uk else m y) = (if y = Str.ofString "out" then some (Value.ref o) else if y = Str.ofString "k" then kv else m y)
  by_cases e1 : y = Str.ofString "k"
  · rw [if_pos e1, if_pos e1, e1, if_neg (by decide +kernel)]
  · rw [if_neg e1, if_neg e1, if_neg e1]
theorem mo_out {m : Str → Option Value} {o o' : Addr} {uk kv : Option Value} : (fun y => if y = Str.ofString "out" then some (Value.ref o') else if y = Str.ofString "k" then kv else mo m o uk y) = mo m o' kv := by
  funext y
  show (if y = Str.ofString "out" then some (Value.ref o') else if y = Str.ofString "k" then kv else if y = Str.ofString "out" then some (Value.ref o) else if y = Str.ofString "k" then uk else m y) = (if y = Str.ofString "out" then some (Value.ref o') else if y = Str.ofString "k" then kv else m y)
  by_cases e1 : y = Str.ofString "out"
  · rw [if_pos e1, if_pos e1]
  · rw [if_neg e1, if_neg e1, if_neg e1]
    by_cases e2 : y = Str.ofString "k"
    · rw [if_pos e2, if_pos e2]
    · rw [if_neg e2, if_neg e2, if_neg e2]
def starBefore (ps : List Part) (out : List Int) : Nat → Bool
  | 0 => false
  | j + 1 => decide (ps[j]? = some .star) && out.any (· == (((j + 1 : Nat) : Int) - 1))
def closeStep (ps : List Part) (zs out : List Int) (i : Nat) : List Int := if (zs.any (· == (i : Int)) || starBefore ps out i) = true then out ++ [(i : Int)] else out
def closeF (ps : List Part) (zs : List Int) (n : Nat) : List Int := (List.range n).foldl (closeStep ps zs) []
theorem cs_yes1 {ps : List Part} {zs out : List Int} {i : Nat} (h : zs.any (fun x => x == (i : Int)) = true) : closeStep ps zs out i = out ++ [(i : Int)] := by
  unfold closeStep; rw [if_pos (by rw [h]; rfl)]
theorem cs_yes2 {ps : List Part} {zs out : List Int} {j : Nat} (hp : ps[j]? = some .star) (ho : out.any (fun x => x == ((j + 1 : Nat) : Int) - 1) = true) : closeStep ps zs out (j + 1) = out ++ [((j + 1 : Nat) : Int)] := by
  have e : starBefore ps out (j + 1) = true := by show (decide (ps[j]? = some .star) && _) = true; rw [hp, ho]; rfl
  unfold closeStep; rw [if_pos (by rw [e]; simp)]
theorem cs_no0 {ps : List Part} {zs out : List Int} (h : zs.any (fun x => x == ((0 : Nat) : Int)) = false) : closeStep ps zs out 0 = out := by
  unfold closeStep starBefore; rw [if_neg (by rw [h]; simp)]
theorem cs_no1 {ps : List Part} {zs out : List Int} {j : Nat} {p : Part} (h : zs.any (fun x => x == ((j + 1 : Nat) : Int)) = false) (hp : ps[j]? = some p) (hne : p ≠ .star) : closeStep ps zs out (j + 1) = out := by
  have e : starBefore ps out (j + 1) = false := by show (decide (ps[j]? = some .star) && _) = false; rw [hp]; simp [hne]
  unfold closeStep; rw [if_neg (by rw [e, h]; simp)]
theorem cs_no2 {ps : List Part} {zs out : List Int} {j : Nat} (h : zs.any (fun x => x == ((j + 1 : Nat) : Int)) = false) (ho : out.any (fun x => x == ((j + 1 : Nat) : Int) - 1) = false) : closeStep ps zs out (j + 1) = out := by
  have e : starBefore ps out (j + 1) = false := by show (decide (ps[j]? = some .star) && _) = false; rw [ho]; simp
  unfold closeStep; rw [if_neg (by rw [e, h]; simp)]
theorem closeF_succ (ps : List Part) (zs : List Int) (n : Nat) : closeF ps zs (n + 1) = closeStep ps zs (closeF ps zs n) n := by
  unfold closeF
  rw [List.range_succ, List.foldl_append]; rfl
theorem closeF_len (ps : List Part) (zs : List Int) (n : Nat) : (closeF ps zs n).length ≤ n := by
  induction n with
  | zero => simp [closeF]
  | succ n ih =>
    rw [closeF_succ]
    unfold closeStep
    split
    · rw [List.length_append, List.length_singleton]; omega
    · omega
theorem PAre.get {vs : List Value} {ps : List Part} (h : PAre vs ps) : ∀ {j : Nat}, j < ps.length → ∃ v p, vs[j]? = some v ∧ ps[j]? = some p ∧ Part.Is p v := by
  induction h with
  | nil => intro j hj; exact absurd hj (Nat.not_lt_zero _)
  | @cons v p vs ps hp h ih =>
    intro j hj
    cases j with
    | zero => exact ⟨v, p, rfl, rfl, hp⟩
    | succ j =>
      obtain ⟨v', p', a, b, c⟩ := ih (j := j) (by simpa using hj)
      exact ⟨v', p', by simpa using a, by simpa using b, c⟩
theorem news_one {h₀ h : Heap} {L o : Addr} {ob : Obj} {all : List (Addr × Obj)} (N : News h₀ L h all) (hm : (o, ob) ∈ all) : News h₀ L h [(o, ob)] := fun p hp => by rw [List.mem_singleton.mp hp]; exact N _ hm
section
variable {prog : Program} {w : World} {A : Around} {E : Value → Shared → Prop} {s : Shared}
theorem len_list_is {l : Addr} {items : Array Value} {k : Nat} {Q : Value → Shared → Prop} (hl : s.heap.IsList l items) (hz : items.size = k) (hk : k ≤ 1000)
    (h : ∀ t k', Q (.int (k : Int) t) { s with toks := k' }) : wpAny (model prog w) A (call (.builtin "len") [.ref l]) Q E s := by
  refine len_list hl (by omega) ?_
  rw [hz]; exact h _ _
theorem item_pred {l : Addr} {vs : List Value} {j : Nat} {v : Value} {u : Tok} {value slice : Expr} {Q : Value → Shared → Prop} (hl : s.heap.IsList l vs.toArray) (hv : vs[j]? = some v) (hj : j ≤ 1000) (h : Q v s)
    (hsub : subscripted slice false (.ref l) (.int (((j + 1 : Nat) : Int) - 1) u) = operate [.ref l, .int (((j + 1 : Nat) : Int) - 1) u] (getItem (.ref l) (.int (((j + 1 : Nat) : Int) - 1) u)) := by with_unfolding_all rfl) :
    wpAny (model prog w) A (subscriptTail value slice (.ref l) (.int (((j + 1 : Nat) : Int) - 1) u)) Q E s := by
  have e : (((j + 1 : Nat) : Int) - 1).toNat = j := by omega
  exact tail_any hl.typeIs slot_list_getitem.lookup (wpAny_getItem_list hl (by omega) (by omega) (by rw [e]; simpa using hv) h) hsub
theorem add_ints_K {h₀ : Heap} {L l b : Addr} {m : Str → Option Value} {news : List (Addr × Obj)} {vs : List Value} {ns : List Int} {n n2 : Nat} {k : Int} {t : Tok} {Q : Value → Shared → Prop} (F : Fr h₀ L s.heap m) (N : News h₀ L s.heap news)
    (hl : (l, lobj vs.toArray n) ∈ news) (hb : (b, lobj (List.toArray [.int k t]) n2) ∈ news) (hi : IntsAre vs ns) (hz : ns.length ≤ 900)
    (h : ∀ D h' ws, Fr h₀ L h' m → News h₀ L h' ((D, lobj (List.toArray ws) 0) :: news) → IntsAre ws (ns ++ [k]) → Q (.ref D) { s with heap := h' }) :
    wpAny (model prog w) A (binaryOp .Add (.ref l) (.ref b)) Q E s :=
  add_lists_ints (ms := [k]) F N (isList_of N hl) (isList_of N hb) hi (.cons k t .nil) (fun h' F' N' hI => h _ h' _ F' N' hI) (small_line (by rw [List.length_singleton]; omega))
end
end
section
-- text N45
open PySem PySem.W PyProof.Rows PySem.Calls PyProof.Rows.LCg PyProof.Rows.LCt
set_option maxHeartbeats 8000000
theorem compEnd_mono {h₀ : Heap} {L : Addr} {m : Str → Option Value} {s₁ : Shared} {I : Addr} {oI : Obj} {C : Addr} {oC : Obj} {D : Addr} {oD : Obj} {S : List (Addr × Obj) → Prop} {rest rest' : Value → List (Addr × Obj) → Prop} {y : Value} {s₂ : Shared}
    (h : CompEnd h₀ L m s₁ I oI C oC D oD S rest y s₂) (hr : ∀ v n, rest v n → rest' v n) : CompEnd h₀ L m s₁ I oI C oC D oD S rest' y s₂ :=
  let ⟨h', tk, news', a, b, c, d, e, f⟩ := h
  ⟨h', tk, news', a, b, c, d, e, hr _ _ f⟩
section
variable {prog : Program} {w : World} {A : Around} {E : Value → Shared → Prop} {s : Shared} {h₀ : Heap} {L : Addr} {m : Str → Option Value} {env : Env}
theorem restT_ind {ct elt : Expr} {x : Str} {scope : Scope} {cl : List (Str × Addr)} {S : List (Addr × Obj) → Prop} {P : Nat → Value → Prop} {Fin : List Value → List (Addr × Obj) → Prop} (n : Nat) (J : Nat → List Value → List (Addr × Obj) → Prop)
    (turn : ∀ i ys news v I oI C oC D m₂ h tk (E' : Value → Shared → Prop), i < n → J i ys news → P i v → NsObj oC m₂ → m₂ x = some v → Fr h₀ L h m → News h₀ L h ((I, oI) :: (C, oC) :: (D, LCg.lst ys) :: news) → Off3 I C D news → ((@Ne Nat I C) ∧ (@Ne Nat I D) ∧ (@Ne Nat C D)) →
      wpAny (model prog w) A (isTrue ct (compEnvC scope cl C env) (eval ct (compEnvC scope cl C env))) (fun ok s' => if ok = true then
        wpAny (model prog w) A (eval elt (compEnvC scope cl C env)) (CompEnd h₀ L m { s with heap := h, toks := tk } I oI C oC D (LCg.lst ys) S (fun y news' => J (i + 1) (ys ++ [y]) news')) E' s'
        else CompEnd h₀ L m { s with heap := h, toks := tk } I oI C oC D (LCg.lst ys) S (fun _ news' => J (i + 1) ys news') Value.none s') E' { s with heap := h, toks := tk })
    (fin : ∀ ys news, J n ys news → Fin ys news) : ∀ k i ys news, k + i = n → J i ys news → CompRestT prog w A h₀ L m env ct elt x scope cl s S P Fin k i ys news := by
  intro k
  induction k with
  | zero =>
    intro i ys news hi hJ
    obtain rfl : i = n := by omega
    exact CompRestT.zero (fin _ _ hJ)
  | succ k ih =>
    intro i ys news hi hJ
    refine CompRestT.succ fun v I oI C oC D m₂ h tk E' hP hC hx F N off ne => ?_
    refine wpAny_mono (turn i ys news v I oI C oC D m₂ h tk E' (by omega) hJ hP hC hx F N off ne) (fun ok s' hq => ?_) fun _ _ e => e
    split at hq
    · rename_i hok
      rw [if_pos hok]
      exact wpAny_mono hq (fun y s₂ he => compEnd_mono he fun v n hn => ih (i + 1) _ n (by omega) hn) fun _ _ e => e
    · rename_i hok
      rw [if_neg hok]
      exact compEnd_mono hq fun v n hn => ih (i + 1) _ n (by omega) hn
end
def partFits : Part → Nat → Bool
  | .star, _ => true
  | .any, _ => true
  | .sign d, c => d == c
def stepOne (ps : List Part) (c : Nat) (z : Int) : List Int :=
  if z < (ps.length : Int) then (match ps[z.toNat]? with | some p => if partFits p c = true then [if p = .star then z else z + 1] else [] | none => []) else []
def stepF (ps : List Part) (c : Nat) (zs : List Int) : List Int := zs.flatMap (stepOne ps c)
theorem stepF_take {ps : List Part} {c : Nat} {zs : List Int} {i : Nat} {z : Int} (h : zs[i]? = some z) : stepF ps c (zs.take (i + 1)) = stepF ps c (zs.take i) ++ stepOne ps c z := by
  unfold stepF
  rw [List.take_add_one, h]; simp
theorem stepOne_len (ps : List Part) (c : Nat) (z : Int) : (stepOne ps c z).length ≤ 1 := by
  unfold stepOne
  repeat' split
  all_goals simp
theorem eqg_none_none : MeetsSeq.EqGives .none .none true := by
  intro prog w A E s Q h
  unfold eqBool
  wp_walk
  exact h
theorem eqg_none_str (b : Str) (u : Tok) : MeetsSeq.EqGives .none (.str b u) false := fun prog w A E s Q h => PySem.SeqAt.EqAt.none_str b u prog w E Q h
theorem eqg_str_none (b : Str) (u : Tok) : MeetsSeq.EqGives (.str b u) .none false := fun prog w A E s Q h => PySem.SeqAt.EqAt.str_none b u prog w E Q h
def fitsEq : Part → Value → Bool
  | .star, .none => true
  | .star, _ => false
  | .any, .str x _ => x == Str.ofString "any"
  | .any, _ => false
  | .sign d, .str x _ => x == ⟨#[d]⟩
  | .sign _, _ => false
theorem eqg_swap {a b : Str} {t u : Tok} : MeetsSeq.EqGives (.str a t) (.str b u) (a == b) := eqGives_str a b t u
theorem sign_any (d : Nat) : ((Str.ofString "any") == (⟨#[d]⟩ : Str)) = false := by
  rw [beq_eq_false_iff_ne]
  intro e
  have := congrArg (fun x : Str => x.cps.size) e
  have q : (Str.ofString "any").cps.size = 3 := by decide +kernel
  rw [q] at this
  simp at this
theorem sign_sign (d c : Nat) : ((⟨#[c]⟩ : Str) == (⟨#[d]⟩ : Str)) = (d == c) := by
  by_cases h : d = c
  · subst h; simp
  · have h1 : (d == c) = false := beq_eq_false_iff_ne.mpr h
    rw [h1, beq_eq_false_iff_ne]
    intro e
    have e2 := congrArg (fun x : Str => x.cps.toList) e
    simp at e2
    exact h e2.symm
section
variable {prog : Program} {w : World} {A : Around} {E : Value → Shared → Prop} {s : Shared}
theorem in_disp {D : Addr} {p : Part} {v : Value} {c : Nat} {t1 t2 : Tok} {Q : Value → Shared → Prop} (hl : s.heap.IsList D #[.none, .str (Str.ofString "any") t1, .str ⟨#[c]⟩ t2]) (hp : Part.Is p v) (h : Q (.bool (partFits p c)) s) :
    wpAny (model prog w) A (compareOp .In v (.ref D)) Q E s := by
  refine SeqInW.in_listW (fitsEq p) (fun y hy => ?_) hl ?_
  · simp only [List.mem_toArray, List.mem_cons, List.not_mem_nil, or_false] at hy
    cases p with
    | star =>
      cases hp
      rcases hy with rfl | rfl | rfl
      · exact eqg_none_none
      · exact eqg_str_none _ _
      · exact eqg_str_none _ _
    | any =>
      obtain ⟨t, rfl⟩ := hp
      rcases hy with rfl | rfl | rfl
      · exact eqg_none_str _ _
      · exact eqg_swap
      · exact eqg_swap
    | sign d =>
      obtain ⟨t, rfl⟩ := hp
      rcases hy with rfl | rfl | rfl
      · exact eqg_none_str _ _
      · exact eqg_swap
      · exact eqg_swap
  · have e : (#[Value.none, .str (Str.ofString "any") t1, .str ⟨#[c]⟩ t2] : Array Value).any (fitsEq p) = partFits p c := by
      cases p with
      | star => simp [fitsEq, partFits]
      | any => simp [fitsEq, partFits]
      | sign d => simp [fitsEq, partFits, sign_any, sign_sign]
    rw [e]; exact h
end
section
variable {prog : Program} {w : World} {A : Around} {E : Value → Shared → Prop} {s : Shared} {h₀ : Heap} {L : Addr} {m : Str → Option Value} {env : Env}
theorem restT_fix {ct elt : Expr} {x : Str} {scope : Scope} {cl : List (Str × Addr)} {S : List (Addr × Obj) → Prop} {P : Nat → Value → Prop} {Fin : List Value → List (Addr × Obj) → Prop} {news : List (Addr × Obj)} (n : Nat) (J : Nat → List Value → Prop) (h0 : J 0 [])
    (turn : ∀ i ys v I oI C oC D m₂ h tk (E' : Value → Shared → Prop), i < n → J i ys → P i v → NsObj oC m₂ → m₂ x = some v → Fr h₀ L h m → News h₀ L h ((I, oI) :: (C, oC) :: (D, LCg.lst ys) :: news) → Off3 I C D news → ((@Ne Nat I C) ∧ (@Ne Nat I D) ∧ (@Ne Nat C D)) →
      wpAny (model prog w) A (isTrue ct (compEnvC scope cl C env) (eval ct (compEnvC scope cl C env))) (fun ok s' => if ok = true then
        wpAny (model prog w) A (eval elt (compEnvC scope cl C env)) (CompEnd h₀ L m { s with heap := h, toks := tk } I oI C oC D (LCg.lst ys) S (fun y news' => news' = news ∧ J (i + 1) (ys ++ [y]))) E' s'
        else CompEnd h₀ L m { s with heap := h, toks := tk } I oI C oC D (LCg.lst ys) S (fun _ news' => news' = news ∧ J (i + 1) ys) Value.none s') E' { s with heap := h, toks := tk })
    (fin : ∀ ys, J n ys → Fin ys news) : CompRestT prog w A h₀ L m env ct elt x scope cl s S P Fin n 0 [] news :=
  restT_ind n (fun i ys nw => nw = news ∧ J i ys) (fun i ys nw v I oI C oC D m₂ h tk E' hi hJ hP hC hx F N off ne => by
      obtain ⟨rfl, hJ⟩ := hJ
      exact turn i ys v I oI C oC D m₂ h tk E' hi hJ hP hC hx F N off ne) (fun ys nw hJ => by
      obtain ⟨rfl, hJ⟩ := hJ
      exact fin ys hJ) n 0 [] news (by omega) ⟨rfl, h0⟩
theorem item_nat_list {l : Addr} {vs : List Value} {j : Nat} {v : Value} {u : Tok} {value slice : Expr} {Q : Value → Shared → Prop} (hl : s.heap.IsList l vs.toArray) (hv : vs[j]? = some v) (hj : j ≤ 1000) (h : Q v s)
    (hsub : subscripted slice false (.ref l) (.int (j : Int) u) = operate [.ref l, .int (j : Int) u] (getItem (.ref l) (.int (j : Int) u)) := by with_unfolding_all rfl) :
    wpAny (model prog w) A (subscriptTail value slice (.ref l) (.int (j : Int) u)) Q E s :=
  tail_any hl.typeIs slot_list_getitem.lookup (wpAny_getItem_list hl (by omega) (by omega) (by simpa using hv) h) hsub
end
theorem news_cons {h₀ h h' : Heap} {L a : Addr} {o : Obj} {m : Str → Option Value} {news : List (Addr × Obj)} (F : Fr h₀ L h m) (N : News h₀ L h news) (x : ∀ b o, h.get? b = some o → h'.get? b = some o) (f : h.get? a = none) (g : h'.get? a = some o) :
    News h₀ L h' ((a, o) :: news) := fun p hp => by
  rcases List.mem_cons.mp hp with rfl | hp
  · refine ⟨g, fun e => ?_, ?_⟩
    · obtain ⟨oL, _, _, hL, _⟩ := F.ns
      have e' : a = L := e
      rw [e', hL] at f; cases f
    · cases q : h₀.get? a with
      | none => rfl
      | some o' => rw [F.keep _ _ q] at f; cases f
  · exact ⟨x _ _ (N p hp).1, (N p hp).2⟩
theorem stepOne_out {ps : List Part} {c j : Nat} (h : ¬ j < ps.length) : stepOne ps c (j : Int) = [] := by
  unfold stepOne; rw [if_neg (by omega)]
theorem stepOne_star {ps : List Part} {c j : Nat} (hj : j < ps.length) (hp : ps[j]? = some .star) : stepOne ps c (j : Int) = [(j : Int)] := by
  unfold stepOne
  rw [if_pos (by omega), Int.toNat_natCast, hp]; simp [partFits]
theorem stepOne_fit {ps : List Part} {c j : Nat} {p : Part} (hj : j < ps.length) (hp : ps[j]? = some p) (hne : p ≠ .star) (hf : partFits p c = true) : stepOne ps c (j : Int) = [(j : Int) + 1] := by
  unfold stepOne
  rw [if_pos (by omega), Int.toNat_natCast, hp]; simp [hf, hne]
theorem stepOne_no {ps : List Part} {c j : Nat} {p : Part} (hj : j < ps.length) (hp : ps[j]? = some p) (hf : partFits p c = false) : stepOne ps c (j : Int) = [] := by
  unfold stepOne
  rw [if_pos (by omega), Int.toNat_natCast, hp]; simp [hf]
theorem stepF_len (ps : List Part) (c : Nat) (zs : List Int) : (stepF ps c zs).length ≤ zs.length := by
  induction zs with
  | nil => simp [stepF]
  | cons z r ih =>
    unfold stepF at ih ⊢
    rw [List.flatMap_cons, List.length_append, List.length_cons]
    have := stepOne_len ps c z
    omega
end
section
-- text N73
open PySem PySem.W PyProof.Rows PySem.Calls PySem.Spec
set_option maxHeartbeats 8000000
section
variable {prog : Program} {w : World} {A : Around} {E : Value → Shared → Prop} {s : Shared} {env : Env} {h₀ : Heap} {body : List Stmt} {Q : Flow → Shared → Prop}
/-- a turn's end: the iterator stands, J holds, the list walked stands -/
def TurnL (h₀ : Heap) (L I : Addr) (oI : Obj) (Jn : (Str → Option Value) → List (Addr × Obj) → Prop) (s s₂ : Shared) : Prop :=
  ∃ h' tk' m' nw', s₂ = { s with heap := h', toks := tk' } ∧ Fr h₀ L h' m' ∧ News h₀ L h' ((I, oI) :: nw') ∧ (∀ p ∈ nw', p.1 ≠ I) ∧ Jn m' nw'
theorem turns_list {elts : List Expr} {kk : Nat} {tp : Pos} {ax : Addr} {lo : Obj} {its : Array Value} {k : Nat} {m₀ : Str → Option Value} {news : List (Addr × Obj)} (J : Nat → (Str → Option Value) → List (Addr × Obj) → Prop)
    (hh : A.handled = none) (F : Fr h₀ env.locals s.heap m₀) (N : News h₀ env.locals s.heap news) (hm : (ax, lo) ∈ news) (hc : lo.cls = .type "list") (hd : lo.data = .seq its k) (hJ : J 0 m₀ news) (hJm : ∀ i m nw, J i m nw → (ax, lo) ∈ nw)
    (turn : ∀ i v I oI m₁ nw h tk, i < its.size → its[i]? = some v → J i m₁ nw → (∀ p ∈ nw, p.1 ≠ I) → Fr h₀ env.locals h m₁ → News h₀ env.locals h ((I, oI) :: nw) →
      wpAny (model prog w) A (assign (.Tuple elts kk tp) env v) (fun _ s₃ => wpAny (model prog w) A (execs body env) (fun f s₂ => f = .next ∧ TurnL h₀ env.locals I oI (J (i + 1)) { s with heap := h, toks := tk } s₂) E s₃) E { s with heap := h, toks := tk })
    (done : ∀ m₁ nw h tk, J its.size m₁ nw → Fr h₀ env.locals h m₁ → News h₀ env.locals h nw → Q .next { s with heap := h, toks := tk }) :
    wpAny (model prog w) A (pyIter (.ref ax)) (fun it s₂ => TurnsAt prog w A h₀ env (.Tuple elts kk tp) body Q E it s₂) E s := by
  have hax := N _ hm
  have hl : s.heap.IsList ax its := ⟨lo, hax.1, hc, k, hd⟩
  have hne : ax ≠ s.heap.objs.size := Nat.ne_of_lt (Heap.lt_size hax.1)
  have hLax : env.locals ≠ ax := fun e => hax.2.1 e.symm
  refine wpAny_pyIter_list hl ?_
  generalize hI : s.heap.objs.size = I at *
  refine ⟨I, [I, ax], [I], its.size, _, _, _, m₀, news, J, rfl, KTurns.ofWalks (Walks.list hh I ax hne its) (fun i v s Q E st q => letGo_listiter st.1 q), ?_, ?_, ?_, ?_, F.push _, ?_, hJ, ?_, ?_⟩
  · intro h
    rcases List.mem_cons.mp h with e | h
    · exact absurd F.ns.lt (by rw [e, hI]; exact Nat.lt_irrefl _)
    · exact hLax (List.mem_singleton.mp h)
  · intro b hb
    rw [List.mem_singleton.mp hb, ← hI]
    exact next_is_new F
  · intro p hp e
    have e' := List.mem_singleton.mp e
    exact absurd (Heap.lt_size (N p hp).1) (by rw [e', hI]; exact Nat.lt_irrefl _)
  · exact ⟨⟨_, by rw [← hI]; exact Heap.get?_push_size _ rfl, rfl, rfl⟩, hl.at fun o e => Heap.get?_push_of_some _ e⟩
  · exact fun p hp => ⟨Heap.get?_push_of_some _ (N p hp).1, (N p hp).2⟩
  · intro i v m₁ news₁ h₁ tk₁ own hi hP hJ' hoff hown hget hall st F₁ N₁
    obtain ⟨oI, hoI, _⟩ := st.1
    have hI₀ : h₀.get? I = none := by rw [← hI]; exact next_is_new F
    have hmI : (I, oI) ∈ own := hall I (List.mem_cons_self ..) hI₀ oI hoI
    have ho : ∀ p ∈ news₁, p.1 ≠ I := fun p hp e => hoff p hp (List.mem_singleton.mpr e)
    have N₂ : News h₀ env.locals h₁ ((I, oI) :: news₁) := fun p hp => by
      rcases List.mem_cons.mp hp with rfl | hp
      · exact N₁ _ (List.mem_append_left _ hmI)
      · exact N₁ _ (List.mem_append_right _ hp)
    refine wpAny_mono (turn i v I oI m₁ news₁ h₁ tk₁ hi hP hJ' ho F₁ N₂) (fun _ s₃ h₃ => wpAny_mono h₃ (fun f s₂ h₄ => ?_) fun _ _ e => e) fun _ _ e => e
    obtain ⟨rfl, h', tk, m', nw', rfl, F', N', ho', hJn⟩ := h₄
    refine .next ⟨rfl, h', tk, m', nw', rfl, F', fun p hp => ?_, fun p hp e => ho' p hp (List.mem_singleton.mp e), hJn⟩
    rcases List.mem_append.mp hp with hp | hp
    · have hn := N₁ p (List.mem_append_left _ hp)
      have hg := hget p hp
      rcases List.mem_cons.mp (hown p hp) with e | e
      · obtain ⟨pa, po⟩ := p
        have e' : pa = I := e
        subst e'
        have : po = oI := Option.some.inj (hg.symm.trans hoI)
        subst this
        exact N' _ (.head _)
      · have e' := List.mem_singleton.mp e
        obtain ⟨pa, po⟩ := p
        have e2 : pa = ax := e'
        subst e2
        have h1 := N' _ (.tail _ (hJm _ _ _ hJn))
        have h2 := (N₂ _ (.tail _ (hJm _ _ _ hJ'))).1
        have : po = lo := Option.some.inj (hg.symm.trans h2)
        subst this
        exact h1
    · exact N' _ (.tail _ hp)
  · intro h' tk m' news' F' N' _ hJ'
    exact done m' news' h' tk hJ' F' N'
end
theorem after_one {h₀ h h' : Heap} {L hl : Addr} {m : Str → Option Value} {pre post : List (Addr × Obj)} {o o2 : Obj} (F : Fr h₀ L h m) (N : News h₀ L h (pre ++ (hl, o) :: post)) (hpre : ∀ p ∈ pre, p.1 ≠ hl) (hpost : ∀ p ∈ post, p.1 ≠ hl)
    (k : ∀ b o, (hideAll h [hl]).get? b = some o → h'.get? b = some o) (e : h'.get? hl = some o2) : Fr h₀ L h' m ∧ News h₀ L h' (pre ++ (hl, o2) :: post) := by
  have nh := N (hl, o) (List.mem_append_right _ (.head _))
  have hL : L ≠ hl := fun x => nh.2.1 x.symm
  have up : ∀ b o, b ≠ hl → h.get? b = some o → h'.get? b = some o := fun b o hb e => k b o (hideAll_get _ e fun hm => hb (List.mem_singleton.mp hm))
  have old : ∀ b o, h₀.get? b = some o → b ≠ hl := fun b o e hb => by
    have := nh.2.2
    rw [hb] at e
    rw [e] at this; cases this
  refine ⟨⟨?_, fun b o e => up b o (old b o e) (F.keep b o e), F.above⟩, fun p hp => ?_⟩
  · obtain ⟨oL, a1, a2, hL', a3⟩ := F.ns
    exact ⟨oL, a1, a2, up _ _ hL hL', a3⟩
  · rcases List.mem_append.mp hp with hp | hp
    · have n := N p (List.mem_append_left _ hp)
      exact ⟨up _ _ (hpre p hp) n.1, n.2⟩
    · rcases List.mem_cons.mp hp with rfl | hp
      · exact ⟨e, nh.2⟩
      · have n := N p (List.mem_append_right _ (.tail _ hp))
        exact ⟨up _ _ (hpost p hp) n.1, n.2⟩
theorem mset_mset {x : Str} {u v : Option Value} {m : Str → Option Value} : (fun y => if y = x then v else if y = x then u else m y) = fun y => if y = x then v else m y := by
  funext y
  split <;> simp_all
end
section
-- text N75
open PySem PySem.W PyProof.Rows PySem.Calls PySem.Spec PyProof.Rows.LCg PyProof.Rows.LCt
set_option maxHeartbeats 8000000
section
variable {prog : Program} {w : World} {A : Around} {E : Value → Shared → Prop} {s : Shared} {h₀ : Heap} {L : Addr} {m : Str → Option Value} {env : Env}
/-- a comprehension's turn behind the binding: the test, if any, then the element -/
def CompTurn (prog : Program) (w : World) (A : Around) (cenv : Env) (ct : Option Expr) (elt : Expr) (Q1 : Value → Shared → Prop) (Q0 : Shared → Prop) (E : Value → Shared → Prop) (s : Shared) : Prop := match ct with
  | none => wpAny (model prog w) A (eval elt cenv) Q1 E s
  | some c => wpAny (model prog w) A (isTrue c cenv (eval c cenv)) (fun ok s' => if ok = true then wpAny (model prog w) A (eval elt cenv) Q1 E s' else Q0 s') E s
theorem CompTurn.mono {cenv : Env} {ct : Option Expr} {elt : Expr} {Q1 Q1' : Value → Shared → Prop} {Q0 Q0' : Shared → Prop} {E : Value → Shared → Prop} (h : CompTurn prog w A cenv ct elt Q1 Q0 E s) (h1 : ∀ v s, Q1 v s → Q1' v s) (h0 : ∀ s, Q0 s → Q0' s) : CompTurn prog w A cenv ct elt Q1' Q0' E s := by
  cases ct with
  | none => exact wpAny_mono h h1 fun _ _ e => e
  | some c =>
    refine wpAny_mono h (fun ok s' h' => ?_) fun _ _ e => e
    cases ok with
    | true => exact wpAny_mono h' h1 fun _ _ e => e
    | false => exact h0 _ h'
def ifsOf (ct : Option Expr) : List Expr := match ct with
  | none => []
  | some c => [c]
theorem gen_loop {elt target iter : Expr} {ct : Option Expr} {scope : Scope} {pos : Pos} {it acc : Value} {env : Env} {R : Result → Shared → Prop} (I : Nat → Shared → Prop)
    (turn : ∀ n s, I n s → wpAny (model prog w) A (pyNext it) (fun r s₁ => match r with
      | none => R (.ok .next) s₁
      | some v => wpAny (model prog w) A (letOwnedTupleGo target it v) (fun _ s₀ => wpAny (model prog w) A (assign target env v) (fun _ s₂ =>
          CompTurn prog w A env ct elt (fun x s₄ => wpAny (model prog w) A (call (.builtin "list.append") [acc, x]) (fun _ s₅ => ∃ m, m < n ∧ I m s₅) (notedBy (model prog w) A env fun e s' => R (.error e) s') s₄)
            (fun s₃ => ∃ m, m < n ∧ I m s₃) (notedBy (model prog w) A env fun e s' => R (.error e) s') s₂)
          (notedBy (model prog w) A env fun e s' => R (.error e) s') s₀) (notedBy (model prog w) A env fun e s' => R (.error e) s') s₁) (notedBy (model prog w) A env fun e s' => R (.error e) s') s)
    (n : Nat) (h : I n s) : codeAny (model prog w) A (.compLoop (.ListComp elt [⟨target, iter, ifsOf ct, 0⟩] scope pos) 0 it acc env) R s := by
  cases ct with
  | none => exact kcp_loop I turn n h
  | some c => exact kct_loop I turn n h
theorem CompTurn.mono_toks {n : Nat} {cenv : Env} {ct : Option Expr} {elt : Expr} {Q1 Q1' : Value → Shared → Prop} {Q0 Q0' : Shared → Prop} {E : Value → Shared → Prop} (hn : n ≤ s.toks) (h : CompTurn prog w A cenv ct elt Q1 Q0 E s) (h1 : ∀ v s, n ≤ s.toks → Q1 v s → Q1' v s) (h0 : ∀ s, n ≤ s.toks → Q0 s → Q0' s) : CompTurn prog w A cenv ct elt Q1' Q0' E s := by
  cases ct with
  | none => exact wpAny_with_toks hn (wpAny_mono h (fun v s' q ht => h1 v s' ht q) fun _ _ e _ => e)
  | some c =>
    refine wpAny_with_toks hn (wpAny_mono h (fun ok s' h' ht => ?_) fun _ _ e _ => e)
    cases ok with
    | true => exact wpAny_with_toks ht (wpAny_mono h' (fun v s'' q ht2 => h1 v s'' ht2 q) fun _ _ e _ => e)
    | false => exact h0 _ ht h'
inductive LoopIn (h₀ : Heap) (L : Addr) (m : Str → Option Value) (s₂ : Shared) (I C D : Addr) (n n0 : Nat) (St : Nat → Heap → Prop) (S : List (Addr × Obj) → Prop) (J : Nat → List Value → List (Addr × Obj) → Prop) (k : Nat) : Shared → Prop
  | mk (h' : Heap) (tk i : Nat) (ys : List Value) (m' : Str → Option Value) (news' : List (Addr × Obj)) (a1 : n0 ≤ tk) (a2 : i ≤ n) (a3 : k = n + 1 - i) (a4 : ys.length ≤ i) (a5 : St i h') (a6 : Fr h₀ L h' m) (a7 : h'.Ns C m') (a8 : News h₀ L h' ((D, lst ys) :: news'))
    (a9 : Off3 I C D news') (a10 : S news') (a11 : J i ys news') : LoopIn h₀ L m s₂ I C D n n0 St S J k { s₂ with heap := h', toks := tk }
theorem block_Gt {n0 : Nat} {ct : Option Expr} {tg elt iter : Expr} {scope : Scope} {cl : List (Str × Addr)} {pos : Pos} {s₂ : Shared} {I : Addr} {fp : List Addr} {n : Nat} {P : Nat → Value → Prop} {St : Nat → Heap → Prop} {S : List (Addr × Obj) → Prop} {news : List (Addr × Obj)}
    {RR : Value → Addr → Result → Shared → Prop} (B : Nat → Value → (Str → Option Value) → Prop) (J : Nat → List Value → List (Addr × Obj) → Prop)
    (W : Walks prog w A I fp [I] n P St) (hsz : n ≤ sizeLine) (hn0 : n0 ≤ s₂.toks) (hIo : ∀ i h, St i h → ∃ o, h.get? I = some o)
    (hSt : ∀ i h h' o nw, St i h → h.get? I = some o → h'.get? I = some o → (∀ b o, h₀.get? b = some o → h'.get? b = some o) → News h₀ L h' nw → S nw → St i h')
    (hgo : ∀ i v (s : Shared) (Q : Unit → Shared → Prop) (E : Value → Shared → Prop), St i s.heap → Q () s → wpAny (model prog w) A (letOwnedTupleGo tg (.ref I) v) Q E s)
    (hasg : ∀ i v ys nw C m' (s : Shared) (Q : Unit → Shared → Prop) (E : Value → Shared → Prop), i < n → P i v → J i ys nw → News h₀ L s.heap nw → s.heap.Ns C m' → (∀ h' tk m'', h'.Ns C m'' → B i v m'' → (∀ c o, c ≠ C → s.heap.get? c = some o → h'.get? c = some o) → Q () { s with heap := h', toks := tk }) →
      wpAny (model prog w) A (assign tg (compEnvC scope cl C env) v) Q E s)
    (hcell : ∀ y ∈ scope.names, y.2 ≠ .cell) (hkind : scope.kind = .function) (hst : St 0 s₂.heap) (hfp : ∀ b ∈ fp, b < s₂.heap.objs.size)
    (F : Fr h₀ L s₂.heap m) (N : News h₀ L s₂.heap news) (hIL : L ≠ I) (hI₀ : h₀.get? I = none) (off : ∀ p ∈ news, p.1 ≠ I) (hS : S news) (h0 : J 0 [] news)
    (turn : ∀ i ys news v I oI C oC D m₂ h tk (E' : Value → Shared → Prop), n0 ≤ tk → i < n → J i ys news → P i v → NsObj oC m₂ → B i v m₂ → Fr h₀ L h m → News h₀ L h ((I, oI) :: (C, oC) :: (D, LCg.lst ys) :: news) → Off3 I C D news → ((@Ne Nat I C) ∧ (@Ne Nat I D) ∧ (@Ne Nat C D)) →
      CompTurn prog w A (compEnvC scope cl C env) ct elt (CompEnd h₀ L m { s₂ with heap := h, toks := tk } I oI C oC D (LCg.lst ys) S (fun y news' => J (i + 1) (ys ++ [y]) news')) (CompEnd h₀ L m { s₂ with heap := h, toks := tk } I oI C oC D (LCg.lst ys) S (fun _ news' => J (i + 1) ys news') Value.none) E' { s₂ with heap := h, toks := tk })
    (hRR : ∀ D C h tk m' ys news', Fr h₀ L h m → News h₀ L h ((D, lst ys) :: news') → Off1 D news' → h.Ns C m' → h₀.get? C = none → h₀.get? D = none → C ≠ L → D ≠ L → C ≠ D → (∀ p ∈ news', p.1 ≠ C) → n0 ≤ tk → J n ys news' → RR (.ref D) C (.ok .next) { s₂ with heap := h, toks := tk }) :
    wpAny (model prog w) A (newList []) (fun acc s₃ => wpAny (model prog w) A (newFunctionEnv scope env.globals cl [] env.qual none .none (some env)) (fun cenv s₄ =>
      codeAny (model prog w) A (.compStart (.ListComp elt [⟨tg, iter, ifsOf ct, 0⟩] scope pos) 0 (.ref I) acc { cenv with scope := relabel scope env }) (RR acc cenv.locals) s₄) E s₃) E s₂ := by
  refine wpAny_newObj_type (wpAny_newFunctionEnv hcell (by intro y hy; simp at hy) (fun h₁ hns₁ hsb₁ => ?_) hkind)
  dsimp only at hns₁ hsb₁ ⊢
  generalize hH2 : s₂.heap.push { cls := .type "list", dict := none, data := .seq ([] : List Value).toArray } = H2 at hns₁ hsb₁ ⊢
  have hC : H2.objs.size = s₂.heap.objs.size + 1 := by rw [← hH2, Heap.size_push]
  have hDC : s₂.heap.objs.size ≠ H2.objs.size := by rw [hC]; exact Nat.ne_of_lt (Nat.lt_succ_self _)
  have below : ∀ b, b < s₂.heap.objs.size → b ≠ H2.objs.size ∧ b ≠ s₂.heap.objs.size := fun b hb => ⟨by rw [hC]; exact Nat.ne_of_lt (Nat.lt_succ_of_lt hb), Nat.ne_of_lt hb⟩
  have hDf : s₂.heap.objs.size ∉ fp := fun hm => Nat.lt_irrefl _ (hfp _ hm)
  have hCf : H2.objs.size ∉ fp := fun hm => by have := hfp _ hm; rw [hC] at this; exact Nat.lt_irrefl _ (Nat.lt_of_succ_lt this)
  have hIf : I ∈ fp := W.sub I (List.mem_singleton.mpr rfl)
  have hIlt : I < s₂.heap.objs.size := hfp I hIf
  have old : ∀ b o, s₂.heap.get? b = some o → h₁.get? b = some o := fun b o e => hsb₁.extBut b o (below b (Heap.lt_size e)).1 (Heap.get?_push_of_some _ (hH2 ▸ Heap.get?_push_of_some _ e))
  have hacc : h₁.get? s₂.heap.objs.size = some (lst []) := hsb₁.extBut _ _ hDC (Heap.get?_push_of_some _ (hH2 ▸ Heap.get?_push_size _ rfl))
  have hst₁ : St 0 h₁ := W.frame _ _ _ hst fun b _ o e => old b o e
  have fresh : ∀ a, s₂.heap.objs.size ≤ a → s₂.heap.get? a = none := fun a ha => by
    cases e : s₂.heap.get? a with
    | none => rfl
    | some o' => exact absurd (Heap.lt_size e) (Nat.not_lt.mpr ha)
  have fresh₀ : ∀ a, s₂.heap.objs.size ≤ a → h₀.get? a = none := fun a ha => by
    cases e : h₀.get? a with
    | none => rfl
    | some o' => have := F.keep a o' e; rw [fresh a ha] at this; cases this
  have hD₀ : h₀.get? s₂.heap.objs.size = none := fresh₀ _ (Nat.le_refl _)
  have hC₀ : h₀.get? H2.objs.size = none := fresh₀ _ (by rw [hC]; exact Nat.le_succ _)
  have hLlt : L < s₂.heap.objs.size := F.ns.lt
  have hDL : s₂.heap.objs.size ≠ L := Ne.symm (below L hLlt).2
  have hCL : H2.objs.size ≠ L := Ne.symm (below L hLlt).1
  have hCI : I ≠ H2.objs.size := (below I hIlt).1
  have hDI : I ≠ s₂.heap.objs.size := (below I hIlt).2
  have off₀ : Off3 I H2.objs.size s₂.heap.objs.size news := Off3.of fun p hp => ⟨off p hp, (below _ (Heap.lt_size (N p hp).1)).1, (below _ (Heap.lt_size (N p hp).1)).2⟩
  have loop : ∀ s₃ : Shared, s₃ = { s₂ with heap := h₁, toks := s₂.toks + ([] : List (Str × Value)).length } →
      codeAny (model prog w) A (.compLoop (.ListComp elt [⟨tg, iter, ifsOf ct, 0⟩] scope pos) 0 (.ref I) (.ref s₂.heap.objs.size) (compEnvC scope cl H2.objs.size env))
        (RR (.ref s₂.heap.objs.size) H2.objs.size) s₃ := by
    rintro s₃ rfl
    refine gen_loop
      (LoopIn h₀ L m s₂ I H2.objs.size s₂.heap.objs.size n n0 St S J) ?_ (n + 1)
      ⟨h₁, _, 0, [], _, news, Nat.le_trans hn0 (Nat.le_add_right _ _), Nat.zero_le _, rfl, Nat.le_refl _, hst₁, F.keeps old, hns₁, fun p hp => ?_, off₀, hS, h0⟩
    · rintro k _ ⟨h', tk, i, ys, m', news', htk, hi, rfl, hyl, hst', F', hn', N', off', hS', hJ⟩
      by_cases hlt : i < n
      · refine wpAny_with_toks (n := n0) htk (W.item i _ _ _ hlt hst' fun v h₂ tk₂ hPv hst₂ hk₂ => fun htk₂ => ?_)
        have off3 := off'.mem
        have N₂ : News h₀ L h₂ ((s₂.heap.objs.size, lst ys) :: news') := news_but N' hk₂ fun p hp => by
          rcases List.mem_cons.mp hp with rfl | hp
          · exact Ne.symm hDI
          · exact (off3 p hp).1
        refine hgo (i + 1) v _ _ _ hst₂ ?_
        refine wpAny_with_toks (n := n0) htk₂ (hasg i v ys news' H2.objs.size m' _ _ _ hlt hPv hJ (fun p hp => N₂ p (List.mem_cons_of_mem _ hp)) (hn'.at' fun o e => hk₂ _ o (by simpa using Ne.symm hCI) e) fun h₃ tk₃ m₃ hn₃ hB hs₃ => fun htk₃ => ?_)
        have hst₃ : St (i + 1) h₃ := W.frame _ _ _ hst₂ fun b hb o e => hs₃ b o (fun q => hCf (by have q' : b = H2.objs.size := q; rw [← q']; exact hb)) e
        obtain ⟨oI, heI⟩ := hIo _ _ hst₃
        obtain ⟨oC, heC, hoC⟩ := ns_obj hn₃
        have F₂ := fr_but F' hk₂ hIL hI₀
        have F₃ : Fr h₀ L h₃ m := ⟨F₂.ns.at' fun o e => hs₃ _ o (Ne.symm hCL) e, fun c o e => hs₃ c o (fun q => by rw [q, hC₀] at e; cases e) (F₂.keep c o e), F₂.above⟩
        have N₃ : News h₀ L h₃ ((I, oI) :: (H2.objs.size, oC) :: (s₂.heap.objs.size, lst ys) :: news') := fun p hp => by
          rcases List.mem_cons.mp hp with rfl | hp
          · exact ⟨heI, Ne.symm hIL, hI₀⟩
          · rcases List.mem_cons.mp hp with rfl | hp
            · exact ⟨heC, hCL, hC₀⟩
            · have z := N₂ p hp
              refine ⟨hs₃ _ _ ?_ z.1, z.2⟩
              rcases List.mem_cons.mp hp with rfl | hp
              · exact hDC
              · exact (off3 p hp).2.1
        refine CompTurn.mono_toks htk₃ (turn i ys news' v I oI H2.objs.size oC s₂.heap.objs.size m₃ h₃ tk₃ _ htk₃ hlt hJ hPv hoC hB F₃ N₃ off' ⟨hCI, hDI, Ne.symm hDC⟩) (fun y s₅ htk₄ h₅ => ?_) (fun s₅ htk₄ h₄ => ?_)
        · obtain ⟨h₄, tk₄, news₄, rfl, F₄, N₄, off₄, hS₄, R₄⟩ := h₅
          have zI := (N₄ (I, oI) List.mem_cons_self).1
          have zC := (N₄ (H2.objs.size, oC) (List.mem_cons_of_mem _ List.mem_cons_self)).1
          have zD := (N₄ (s₂.heap.objs.size, lst ys) (List.mem_cons_of_mem _ (List.mem_cons_of_mem _ List.mem_cons_self))).1
          have N₄' : News h₀ L h₄ news₄ := fun p hp => N₄ p (List.mem_cons_of_mem _ (List.mem_cons_of_mem _ (List.mem_cons_of_mem _ hp)))
          have hst₄ : St (i + 1) h₄ := hSt _ _ _ _ _ hst₃ heI zI F₄.keep N₄' hS₄
          refine append_at (hsz := by show ys.toArray.size ≤ sizeLine; rw [List.size_toArray]; exact Nat.le_trans (Nat.le_trans hyl hi) hsz) zD fun h₅ hs₅ hD₅ => ?_
          have off4 := off₄.mem
          refine ⟨n + 1 - (i + 1), by omega, h₅, tk₄, i + 1, ys ++ [y], _, news₄, htk₄, hlt, rfl, by rw [List.length_append, List.length_singleton]; exact Nat.succ_le_succ hyl, W.frame _ _ _ hst₄ fun b hb o e => hs₅.extBut b o (fun q => hDf (q ▸ hb)) e, F₄.change hs₅ hDL hD₀,
            (hoC.ns zC).sameBut hs₅ (Ne.symm hDC), fun p hp => ?_, off₄, hS₄, R₄⟩
          rcases List.mem_cons.mp hp with rfl | hp
          · exact ⟨hD₅.trans (congrArg some (lst_snoc ys y)), hDL, hD₀⟩
          · exact ⟨hs₅.extBut _ _ (off4 p hp).2.2 (N₄' p hp).1, (N₄' p hp).2⟩
        · obtain ⟨h₅, tk₄, news₄, rfl, F₄, N₄, off₄, hS₄, R₄⟩ := h₄
          have zI := (N₄ (I, oI) List.mem_cons_self).1
          have zC := (N₄ (H2.objs.size, oC) (List.mem_cons_of_mem _ List.mem_cons_self)).1
          have N₄' : News h₀ L h₅ news₄ := fun p hp => N₄ p (List.mem_cons_of_mem _ (List.mem_cons_of_mem _ (List.mem_cons_of_mem _ hp)))
          have hst₄ : St (i + 1) h₅ := hSt _ _ _ _ _ hst₃ heI zI F₄.keep N₄' hS₄
          refine ⟨n + 1 - (i + 1), by omega, h₅, tk₄, i + 1, ys, _, news₄, htk₄, hlt, rfl, Nat.le_succ_of_le hyl, hst₄, F₄, hoC.ns zC, fun p hp => ?_, off₄, hS₄, R₄⟩
          rcases List.mem_cons.mp hp with rfl | hp
          · exact N₄ _ (List.mem_cons_of_mem _ (List.mem_cons_of_mem _ List.mem_cons_self))
          · exact N₄' p hp
      · obtain rfl : i = n := Nat.le_antisymm hi (Nat.not_lt.mp hlt)
        refine wpAny_with_toks (n := n0) htk (W.done _ _ _ hst' fun h₂ tk₂ hk₂ => fun htk₂ => ?_)
        have off3 := off'.mem
        exact hRR _ _ h₂ tk₂ _ ys news' (fr_but F' hk₂ hIL hI₀) (news_but N' hk₂ fun p hp => by
          rcases List.mem_cons.mp hp with rfl | hp
          · exact Ne.symm hDI
          · exact (off3 p hp).1) off'.one (hn'.at' fun o e => hk₂ _ o (by simpa using Ne.symm hCI) e) hC₀ hD₀ hCL hDL (Ne.symm hDC) (fun p hp => (off3 p hp).2.1) htk₂ hJ
    · rcases List.mem_cons.mp hp with rfl | hp
      · exact ⟨hacc, hDL, hD₀⟩
      · exact ⟨old _ _ (N p hp).1, (N p hp).2⟩
  exact codeAny_compStart_list (loop _ rfl) (W.self 0 _ _ _ hst₁ (loop _ rfl))
theorem block_G {ct : Option Expr} {tg elt iter : Expr} {scope : Scope} {cl : List (Str × Addr)} {pos : Pos} {s₂ : Shared} {I : Addr} {fp : List Addr} {n : Nat} {P : Nat → Value → Prop} {St : Nat → Heap → Prop} {S : List (Addr × Obj) → Prop} {news : List (Addr × Obj)}
    {RR : Value → Addr → Result → Shared → Prop} (B : Nat → Value → (Str → Option Value) → Prop) (J : Nat → List Value → List (Addr × Obj) → Prop)
    (W : Walks prog w A I fp [I] n P St) (hsz : n ≤ sizeLine) (hIo : ∀ i h, St i h → ∃ o, h.get? I = some o)
    (hSt : ∀ i h h' o nw, St i h → h.get? I = some o → h'.get? I = some o → (∀ b o, h₀.get? b = some o → h'.get? b = some o) → News h₀ L h' nw → S nw → St i h')
    (hgo : ∀ i v (s : Shared) (Q : Unit → Shared → Prop) (E : Value → Shared → Prop), St i s.heap → Q () s → wpAny (model prog w) A (letOwnedTupleGo tg (.ref I) v) Q E s)
    (hasg : ∀ i v ys nw C m' (s : Shared) (Q : Unit → Shared → Prop) (E : Value → Shared → Prop), i < n → P i v → J i ys nw → News h₀ L s.heap nw → s.heap.Ns C m' → (∀ h' tk m'', h'.Ns C m'' → B i v m'' → (∀ c o, c ≠ C → s.heap.get? c = some o → h'.get? c = some o) → Q () { s with heap := h', toks := tk }) →
      wpAny (model prog w) A (assign tg (compEnvC scope cl C env) v) Q E s)
    (hcell : ∀ y ∈ scope.names, y.2 ≠ .cell) (hkind : scope.kind = .function) (hst : St 0 s₂.heap) (hfp : ∀ b ∈ fp, b < s₂.heap.objs.size)
    (F : Fr h₀ L s₂.heap m) (N : News h₀ L s₂.heap news) (hIL : L ≠ I) (hI₀ : h₀.get? I = none) (off : ∀ p ∈ news, p.1 ≠ I) (hS : S news) (h0 : J 0 [] news)
    (turn : ∀ i ys news v I oI C oC D m₂ h tk (E' : Value → Shared → Prop), i < n → J i ys news → P i v → NsObj oC m₂ → B i v m₂ → Fr h₀ L h m → News h₀ L h ((I, oI) :: (C, oC) :: (D, LCg.lst ys) :: news) → Off3 I C D news → ((@Ne Nat I C) ∧ (@Ne Nat I D) ∧ (@Ne Nat C D)) →
      CompTurn prog w A (compEnvC scope cl C env) ct elt (CompEnd h₀ L m { s₂ with heap := h, toks := tk } I oI C oC D (LCg.lst ys) S (fun y news' => J (i + 1) (ys ++ [y]) news')) (CompEnd h₀ L m { s₂ with heap := h, toks := tk } I oI C oC D (LCg.lst ys) S (fun _ news' => J (i + 1) ys news') Value.none) E' { s₂ with heap := h, toks := tk })
    (hRR : ∀ D C h tk m' ys news', Fr h₀ L h m → News h₀ L h ((D, lst ys) :: news') → Off1 D news' → h.Ns C m' → h₀.get? C = none → h₀.get? D = none → C ≠ L → D ≠ L → C ≠ D → (∀ p ∈ news', p.1 ≠ C) → J n ys news' → RR (.ref D) C (.ok .next) { s₂ with heap := h, toks := tk }) :
    wpAny (model prog w) A (newList []) (fun acc s₃ => wpAny (model prog w) A (newFunctionEnv scope env.globals cl [] env.qual none .none (some env)) (fun cenv s₄ =>
      codeAny (model prog w) A (.compStart (.ListComp elt [⟨tg, iter, ifsOf ct, 0⟩] scope pos) 0 (.ref I) acc { cenv with scope := relabel scope env }) (RR acc cenv.locals) s₄) E s₃) E s₂ :=
  block_Gt (n0 := 0) B J W hsz (Nat.zero_le _) hIo hSt hgo hasg hcell hkind hst hfp F N hIL hI₀ off hS h0 (fun i ys news v I oI C oC D m₂ h tk E' _ => turn i ys news v I oI C oC D m₂ h tk E')
    (fun D C h tk m' ys news' a1 a2 a3 a4 a5 a6 a7 a8 a9 a10 _ a11 => hRR D C h tk m' ys news' a1 a2 a3 a4 a5 a6 a7 a8 a9 a10 a11)
end
section
variable {prog : Program} {w : World} {A : Around} {E : Value → Shared → Prop} {s : Shared} {h₀ : Heap} {L : Addr} {m : Str → Option Value} {env : Env}
theorem assignL {env : Env} {a b : Str} {pa pb tp : Pos} {kk : Nat} {T : Addr} {x y : Value} {m : Str → Option Value} {Q : Unit → Shared → Prop} (hh : A.handled = none) (ht : s.heap.IsList T #[x, y])
    (ha : env.kindOf a = some .local) (hb : env.kindOf b = some .local) (hp : (env.scope.kind == .class || (env.scope.kind == .module && env.locals != env.globals)) = false) (hn : s.heap.Ns env.locals m)
    (h : ∀ (h' : Heap) (tk : Nat), h'.Ns env.locals (fun z => if z = b then some y else if z = a then some x else m z) → (∀ c o, c ≠ env.locals → s.heap.get? c = some o → h'.get? c = some o) → Q () { s with heap := h', toks := tk }) :
    wpAny (model prog w) A (assign (.Tuple [.Name a pa, .Name b pb] kk tp) env (.ref T)) Q E s := by
  rw [assign_Tuple]
  refine wpAny_bind (wpAny_standAt ?_)
  unfold unpack
  rw [show (assignEach [.Name a pa, .Name b pb] env).length = (#[x, y] : Array Value).size from rfl, show (assignEach [.Name a pa, .Name b pb] env).findIdx? (·.1) = none from rfl]
  refine wpAny_bind (wpAny_holding (kun_itemsOf hh ht fun h₁ he₁ => ?_))
  have hL : env.locals ≠ s.heap.objs.size := Nat.ne_of_lt hn.lt
  have hn₁ : h₁.Ns env.locals m := hn.at' fun o e => he₁ _ o hL e
  have up₁ : ∀ c o, s.heap.get? c = some o → h₁.get? c = some o := fun c o e => he₁ c o (Nat.ne_of_lt (Heap.lt_size e)) e
  show wpAny _ _ (assignInOrder [assign (.Name a pa) env, assign (.Name b pb) env] [x, y]) _ _ _
  refine assignInOrder_cons ?_
  refine wpAny_assign_Name (wpAny_storeName_local ha hn₁ (fun h₂ hn₂ hs₂ => ?_) hp)
  refine assignInOrder_cons ?_
  refine wpAny_assign_Name (wpAny_storeName_local hb hn₂ (fun h₃ hn₃ hs₃ => ?_) hp)
  refine assignInOrder_nil ?_
  exact h h₃ _ hn₃ fun c o hc e => hs₃.extBut c o hc (hs₂.extBut c o hc (up₁ c o e))
def PairSrc (prog : Program) (w : World) (A : Around) (h₀ : Heap) (L : Addr) (m : Str → Option Value) (env : Env) (ct : Option Expr) (elt : Expr) (a b : Str) (scope : Scope) (cl : List (Str × Addr)) (Q : Value → Shared → Prop) (xv : Value) (s₁ : Shared) : Prop :=
  ∃ (ax : Addr) (its : Array Value) (news : List (Addr × Obj)) (J : Nat → List Value → List (Addr × Obj) → Prop) (R : Nat → Value → Value → Prop), xv = .ref ax ∧ A.handled = none ∧ Fr h₀ L s₁.heap m ∧ News h₀ L s₁.heap news ∧
      SrcAt h₀ ax its news ∧ its.size ≤ sizeLine ∧ J 0 [] news ∧ (∀ i v ys nw, its[i]? = some v → J i ys nw → ∃ l n x y, v = .ref l ∧ (l, W.listOf #[x, y] n) ∈ nw ∧ R i x y) ∧
      (∀ i ys news I oI C oC D m₂ x y h tk (E' : Value → Shared → Prop), i < its.size → J i ys news → R i x y → NsObj oC m₂ → m₂ a = some x → m₂ b = some y → Fr h₀ L h m → News h₀ L h ((I, oI) :: (C, oC) :: (D, LCg.lst ys) :: news) → Off3 I C D news → ((@Ne Nat I C) ∧ (@Ne Nat I D) ∧ (@Ne Nat C D)) →
        CompTurn prog w A (compEnvC scope cl C env) ct elt (CompEnd h₀ L m { s₁ with heap := h, toks := tk } I oI C oC D (LCg.lst ys) (SrcAt h₀ ax its) (fun y news' => J (i + 1) (ys ++ [y]) news'))
          (CompEnd h₀ L m { s₁ with heap := h, toks := tk } I oI C oC D (LCg.lst ys) (SrcAt h₀ ax its) (fun _ news' => J (i + 1) ys news') Value.none) E' { s₁ with heap := h, toks := tk }) ∧
      ∀ ys news', J its.size ys news' → FinE h₀ L m s₁ Q ys news'
/-- a comprehension over a list of two-item lists, [elt for a, b in iter if ct] -/
theorem comp_pairsL {elt iter : Expr} {ct : Option Expr} {a b : Str} {pa pb tp : Pos} {kk : Nat} {scope : Scope} {cl : List (Str × Addr)} {pos : Pos} {Q : Value → Shared → Prop}
    (hclos : closureFor scope env = pure cl) (hcell : ∀ y ∈ scope.names, y.2 ≠ .cell) (hkind : scope.kind = .function)
    (hnames : ∀ y ∈ scope.names, y.2 = .local → scope.names.lookup y.1 = some .local) (hxa : scope.names.lookup a = some .local) (hxb : scope.names.lookup b = some .local) (hab : ¬ a = b)
    (h : wpAny (model prog w) A (eval iter env) (PairSrc prog w A h₀ L m env ct elt a b scope cl Q) E s)
    (hs : ∀ x, foldedSetIterable iter env x = pure x := by intro _; rfl) :
    wpAny (model prog w) A (eval (.ListComp elt [⟨.Tuple [.Name a pa, .Name b pb] kk tp, iter, ifsOf ct, 0⟩] scope pos) env) Q E s := by
  rw [eval_ListComp]
  refine wpAny_comprehension_free (use := none) rfl hs hclos hkind hnames (wpAny_mono h (fun xv s₁ h₁ => ?_) fun _ _ e => e)
  obtain ⟨ax, its, news, J, R, rfl, hh, F, N, S, hsz, h0, hit, turn, fin⟩ := h₁
  have hl := S.list F.keep N
  have hlt : ax < s₁.heap.objs.size := by obtain ⟨_, e, _⟩ := hl; exact Heap.lt_size e
  refine wpAny_pyIter_list hl ?_
  have up : ∀ b o, s₁.heap.get? b = some o → (s₁.heap.push { cls := .type "list_iterator", data := .fields #[.ref ax, .int 0 0] }).get? b = some o := fun b o e => Heap.get?_push_of_some _ e
  refine block_G (fun i v m'' => ∃ x y, R i x y ∧ m'' a = some x ∧ m'' b = some y) J (Walks.list hh s₁.heap.objs.size ax (Nat.ne_of_lt hlt) its) hsz (fun i h st => by obtain ⟨o, e, _⟩ := st.1; exact ⟨o, e⟩) list_st (fun i v s Q E st q => letGo_listiter st.1 q) ?_ hcell hkind
    ⟨⟨_, Heap.get?_push_size _ rfl, rfl, rfl⟩, hl.push _⟩ (fun b hb => ?_) (F.keeps up) (N.grown up) (Nat.ne_of_lt F.ns.lt) (next_is_new F) (fun p hp => Nat.ne_of_lt (Heap.lt_size (N p hp).1)) S h0 ?_ ?_
  · intro i v ys nw C m' s Q E hi hv hJ N' hn k
    obtain ⟨l, n, x, y, rfl, hm, hR⟩ := hit i v ys nw hv hJ
    refine assignL (env := compEnvC scope cl C env) hh ⟨_, (N' _ hm).1, rfl, _, rfl⟩ (lookup_relabel_local hxa) (lookup_relabel_local hxb) (by simp [compEnvC, relabel, hkind]) hn fun h₄ tk₄ hn₄ hs₄ => ?_
    exact k h₄ tk₄ _ hn₄ ⟨x, y, hR, by simp [hab], by simp⟩ hs₄
  · show b < (s₁.heap.push _).objs.size
    rw [Heap.size_push]
    rcases List.mem_cons.mp hb with rfl | hb
    · exact Nat.lt_succ_self _
    · rw [List.mem_singleton.mp hb]; exact Nat.lt_succ_of_lt hlt
  · intro i ys news v I oI C oC D m₂ h tk E' hi hJ hP hC ⟨x, y, hR, ha, hb⟩ F N off ne
    exact turn i ys news I oI C oC D m₂ x y h tk E' hi hJ hR hC ha hb F N off ne
  · intro D C h tk m' ys news' F' N' o1 hn hC₀ hD₀ hCL hDL hCD offC hJ
    refine ⟨m', hn, fun h'' hs'' => fin ys news' hJ D h'' tk (F'.change hs'' hCL hC₀) (fun p hp => ?_) o1⟩
    refine ⟨hs''.extBut _ _ ?_ (N' p hp).1, (N' p hp).2⟩
    rcases List.mem_cons.mp hp with rfl | hp
    · exact Ne.symm hCD
    · exact offC p hp
end
end
section
-- text N78
open PySem PySem.W PyProof.Rows PySem.Calls PySem.Spec PyProof.Rows.LCg PyProof.Rows.LCt
set_option maxHeartbeats 8000000
def Wrap (P : Prop) : Prop := P
section
variable {prog : Program} {w : World} {A : Around} {E : Value → Shared → Prop} {s : Shared} {h₀ : Heap} {L : Addr} {m : Str → Option Value} {env : Env}
/-- x = [elt for y in list if ct], the token counter told -/
theorem assign_comp {n0 : Nat} {elt iter : Expr} {ct : Option Expr} {x y : Str} {px py : Pos} {scope : Scope} {cl : List (Str × Addr)} {pos spos : Pos} {Q : Flow → Shared → Prop} (hLe : env.locals = L)
    (hsw : swapsWith (.ListComp elt [⟨.Name x px, iter, ifsOf ct, 0⟩] scope pos) (some (.Name y py)) spos.line env = pure true)
    (hclos : closureFor scope env = pure cl) (hcell : ∀ z ∈ scope.names, z.2 ≠ .cell) (hkind : scope.kind = .function)
    (hnames : ∀ z ∈ scope.names, z.2 = .local → scope.names.lookup z.1 = some .local) (hx : scope.names.lookup x = some .local)
    (hy : env.kindOf y = some .local) (hp : (env.scope.kind == .class || (env.scope.kind == .module && env.locals != env.globals)) = false)
    (h : wpAny (model prog w) A (eval iter env) (fun xv s₁ => Wrap (∃ (ax : Addr) (its : Array Value) (news : List (Addr × Obj)) (J : Nat → List Value → List (Addr × Obj) → Prop), xv = .ref ax ∧ n0 ≤ s₁.toks ∧ A.handled = none ∧ Fr h₀ L s₁.heap m ∧ News h₀ L s₁.heap news ∧
      SrcAt h₀ ax its news ∧ its.size ≤ sizeLine ∧ J 0 [] news ∧
      (∀ i ys news v I oI C oC D m₂ h tk (E' : Value → Shared → Prop), n0 ≤ tk → i < its.size → J i ys news → its[i]? = some v → NsObj oC m₂ → m₂ x = some v → Fr h₀ L h m → News h₀ L h ((I, oI) :: (C, oC) :: (D, LCg.lst ys) :: news) → Off3 I C D news → ((@Ne Nat I C) ∧ (@Ne Nat I D) ∧ (@Ne Nat C D)) →
        CompTurn prog w A (compEnvC scope cl C env) ct elt (CompEnd h₀ L m { s₁ with heap := h, toks := tk } I oI C oC D (LCg.lst ys) (SrcAt h₀ ax its) (fun y news' => J (i + 1) (ys ++ [y]) news'))
          (CompEnd h₀ L m { s₁ with heap := h, toks := tk } I oI C oC D (LCg.lst ys) (SrcAt h₀ ax its) (fun _ news' => J (i + 1) ys news') Value.none) E' { s₁ with heap := h, toks := tk }) ∧
      ∀ ys news', J its.size ys news' → FinA h₀ L m s₁ y Q ys news')) E s)
    (hs : ∀ x, foldedSetIterable iter env x = pure x := by intro _; rfl) :
    wpAny (model prog w) A (exec (.Assign [.Name y py] (.ListComp elt [⟨.Name x px, iter, ifsOf ct, 0⟩] scope pos) spos) env) Q E s := by
  subst hLe
  rw [exec_Assign_Name_used _ _ _ _ hsw]
  refine wpAny_bind (wpAny_standAt (wpAny_bind ?_))
  show wpAny _ A (do let _ ← comprehension (.ListComp elt [⟨.Name x px, iter, ifsOf ct, 0⟩] scope pos) scope env _ (newList []) false (eval iter env) (some (assign (.Name y py) env))) _ _ s
  refine wpAny_bind (wpAny_mono (wpAny_comprehension_free (use := some (assign (.Name y py) env)) (Q := fun _ s' => Q .next s') rfl hs hclos hkind hnames
    (wpAny_mono h (fun xv s₁ h₁ => ?_) fun _ _ e => e)) (fun _ s' hq => wpAny_pure (wpAny_pure hq)) fun _ _ e => e)
  obtain ⟨ax, its, news, J, rfl, hn0, hh, F, N, S, hsz, h0, turn, fin⟩ := h₁
  have hl := S.list F.keep N
  have hlt : ax < s₁.heap.objs.size := by obtain ⟨_, e, _⟩ := hl; exact Heap.lt_size e
  refine wpAny_pyIter_list hl ?_
  have up : ∀ b o, s₁.heap.get? b = some o → (s₁.heap.push { cls := .type "list_iterator", data := .fields #[.ref ax, .int 0 0] }).get? b = some o := fun b o e => Heap.get?_push_of_some _ e
  refine block_Gt (n0 := n0) (fun i v m'' => m'' x = some v) J (Walks.list hh s₁.heap.objs.size ax (Nat.ne_of_lt hlt) its) hsz hn0 (fun i h st => by obtain ⟨o, e, _⟩ := st.1; exact ⟨o, e⟩) list_st (fun i v s Q E st q => ?_) ?_ hcell hkind
    ⟨⟨_, Heap.get?_push_size _ rfl, rfl, rfl⟩, hl.push _⟩ (fun b hb => ?_) (F.keeps up) (N.grown up) (Nat.ne_of_lt F.ns.lt) (next_is_new F) (fun p hp => Nat.ne_of_lt (Heap.lt_size (N p hp).1)) S h0 ?_ ?_
  · exact wpAny_pure q
  · intro i v ys nw C m' s Q E hi hv hJ N' hn k
    refine wpAny_assign_Name (wpAny_storeName_local (lookup_relabel_local hx) hn (fun h₃ hn₃ hs₃ => ?_) (by simp [compEnvC, relabel, hkind]))
    exact k h₃ _ _ hn₃ (by simp) fun c o hc e => hs₃.extBut c o hc e
  · show b < (s₁.heap.push _).objs.size
    rw [Heap.size_push]
    rcases List.mem_cons.mp hb with rfl | hb
    · exact Nat.lt_succ_self _
    · rw [List.mem_singleton.mp hb]; exact Nat.lt_succ_of_lt hlt
  · intro i ys news v I oI C oC D m₂ h tk E' htk hi hJ hP hC hB F N off ne
    exact turn i ys news v I oI C oC D m₂ h tk E' htk hi hJ hP hC hB F N off ne
  · intro D C h' tk m' ys news' F' N' o1 hn hC₀ hD₀ hCL hDL hCD offC htk hJ
    show wpAny _ A (assign (.Name y py) env (.ref D)) _ _ _
    refine wpAny_assign_Name (wpAny_storeName_local hy F'.ns (fun h₂ hn₂ hs₂ => ?_) hp)
    have hL₀ : h₀.get? env.locals = none := Heap.get?_none_of_le F'.above
    have F₂ : Fr h₀ env.locals h₂ (fun z => if z = y then some (.ref D) else m z) := ⟨hn₂, fun b o e => hs₂.extBut b o (fun q => by rw [q, hL₀] at e; cases e) (F'.keep b o e), F'.above⟩
    refine ⟨m', hn.sameBut hs₂ hCL, fun h'' hs'' => fin ys news' hJ D h'' _ (F₂.change hs'' hCL hC₀) (fun p hp => ?_) o1⟩
    have z : h₂.get? p.1 = some p.2 := hs₂.extBut _ _ (N' p hp).2.1 (N' p hp).1
    refine ⟨hs''.extBut _ _ ?_ z, (N' p hp).2⟩
    rcases List.mem_cons.mp hp with rfl | hp
    · exact Ne.symm hCD
    · exact offC p hp
end
end
section
-- text Q45
open PySem PySem.W PyProof.Rows PySem.Calls
set_option maxHeartbeats 8000000
noncomputable def fitsF : List Nat → List Nat → Bool
  | [], ns => ns.isEmpty
  | c :: cs, [] => if c == 42 then fitsF cs [] else false
  | c :: cs, n :: ns => if c == 42 then fitsF cs (n :: ns) || fitsF (c :: cs) ns else (c == 63 || c == n) && fitsF cs ns
abbrev tx (cs : List Nat) : Str := ⟨cs.toArray⟩
theorem slice_tail {c : Nat} {cs : List Nat} : Txt.slice (tx (c :: cs)) (some 1) none = tx cs := by
  rw [slice_from_eq (b := ((tx (c :: cs)).length : Int)) (by decide) (by show (1 : Int) ≤ (((c :: cs).toArray.size : Nat) : Int); simp; omega) rfl]
  show (⟨_⟩ : Str) = ⟨_⟩
  congr 1
  simp [PySem.Str.length]
section
variable {prog : Program} {w : World} {A : Around} {E : Value → Shared → Prop} {s : Shared}
theorem eq_txt {x y : Str} {t u : Tok} {Q : Value → Shared → Prop} (b : Bool) (e : (x.cps.toList == y.cps.toList) = b) (h : Q (.bool b) s) : wpAny (model prog w) A (compareOp .Eq (.str x t) (.str y u)) Q E s :=
  P.eq_str (by rw [e]; exact h)
theorem ne_txt {x y : Str} {t u : Tok} {Q : Value → Shared → Prop} (b : Bool) (e : (x.cps.toList != y.cps.toList) = b) (h : Q (.bool b) s) : wpAny (model prog w) A (compareOp .NotEq (.str x t) (.str y u)) Q E s :=
  P.ne_str (by rw [e]; exact h)
theorem star_is {c : Nat} {b : Bool} (h : (c == 42) = b) : ((tx [c]).cps.toList == (Str.ofString "*").cps.toList) = b := by
  rw [show (Str.ofString "*").cps.toList = [42] from by decide +kernel]
  rw [← h]; simp
theorem in_two {D : Addr} {n c : Nat} {t t1 t2 : Tok} {Q : Value → Shared → Prop} (hl : s.heap.IsList D #[.str (Str.ofString "?") t1, .str ⟨#[n]⟩ t2]) (h : Q (.bool (c == 63 || c == n)) s) :
    wpAny (model prog w) A (compareOp .In (.str ⟨#[c]⟩ t) (.ref D)) Q E s := by
  refine SeqInW.in_listW (fitsEq (.sign c)) (fun y hy => ?_) hl ?_
  · simp only [List.mem_toArray, List.mem_cons, List.not_mem_nil, or_false] at hy
    rcases hy with rfl | rfl
    · exact eqg_swap
    · exact eqg_swap
  · have e : (#[Value.str (Str.ofString "?") t1, .str ⟨#[n]⟩ t2] : Array Value).any (fitsEq (.sign c)) = (c == 63 || c == n) := by
      rw [show (Str.ofString "?") = (⟨#[63]⟩ : Str) from by decide +kernel]
      simp [fitsEq, sign_sign]
    rw [e]; exact h
end
end
section
-- text Q45b
open PySem PySem.W PyProof.Rows PySem.Calls
set_option maxHeartbeats 8000000
theorem nil_is : ((tx []).cps.toList == (Str.ofString "").cps.toList) = true := by decide +kernel
theorem cons_is {c : Nat} {cs : List Nat} : ((tx (c :: cs)).cps.toList == (Str.ofString "").cps.toList) = false := by
  rw [show (Str.ofString "").cps.toList = [] from by decide +kernel]; rfl
theorem nil_ne : ((tx []).cps.toList != (Str.ofString "").cps.toList) = false := by decide +kernel
theorem cons_ne {c : Nat} {cs : List Nat} : ((tx (c :: cs)).cps.toList != (Str.ofString "").cps.toList) = true := by
  rw [show (Str.ofString "").cps.toList = [] from by decide +kernel]; rfl
section
variable {prog : Program} {w : World} {A : Around} {E : Value → Shared → Prop} {s : Shared} {value slice : Expr} {h₀ : Heap} {L : Addr} {m : Str → Option Value} {news : List (Addr × Obj)} {Q : Value → Shared → Prop}
theorem item_head {c : Nat} {cs : List Nat} {t u : Tok}
    (h : ∀ t' k', Q (.str (tx [c]) t') { s with toks := k' })
    (hs : subscripted slice false (.str (tx (c :: cs)) t) (.int 0 u) = operate [.str (tx (c :: cs)) t, .int 0 u] (getItem (.str (tx (c :: cs)) t) (.int 0 u)) := by with_unfolding_all rfl)
    (ht : ∀ r, letTemporaryGo value (.str (tx (c :: cs)) t) r = pure () := by intro _; with_unfolding_all rfl) :
    wpAny (model prog w) A (subscriptTail value slice (.str (tx (c :: cs)) t) (.int 0 u)) Q E s :=
  item_at (i := 0) (c := c) (by simp) (by omega) h hs ht
theorem slice_tail_K {c : Nat} {cs : List Nat} {t ui : Tok} (hc : cs.length ≤ 1000) (hF : Fr h₀ L s.heap m) (hN : News h₀ L s.heap news)
    (h : ∀ h' t' k, Fr h₀ L h' m → News h₀ L h' news → Q (.str (tx cs) t') { s with heap := h', toks := k })
    (hs : subscripted slice false (.str (tx (c :: cs)) t) (.ref s.heap.objs.size) = operate [.ref s.heap.objs.size, .str (tx (c :: cs)) t] (getItem (.str (tx (c :: cs)) t) (.ref s.heap.objs.size)) := by with_unfolding_all rfl)
    (ht : ∀ r, letTemporaryGo value (.str (tx (c :: cs)) t) r = pure () := by intro _; with_unfolding_all rfl) :
    wpAny (model prog w) A (subscriptTail value slice (.str (tx (c :: cs)) t) (.ref s.heap.objs.size)) Q E { s with heap := s.heap.push { cls := .type "slice", data := .fields #[.int 1 ui, .none, .none] } } :=
  slice_strN_sn hF hN (fun h' t' k F N => by rw [slice_tail]; exact h h' t' k F N) hs ht (by
    show ((c :: cs).toArray.size) ≤ sizeLine
    rw [List.size_toArray, List.length_cons]
    exact Nat.le_trans (show cs.length + 1 ≤ 1001 by omega) (Nat.le_of_ble_eq_true rfl))
end
end
section
-- text R45
open PySem PySem.W PyProof.Rows PySem.Calls
set_option maxHeartbeats 8000000
abbrev strIt (x : Str) (t : Tok) : Obj := { cls := .type "str_ascii_iterator", data := .fields #[.str x t, .int 0 0] }
abbrev listIt (l : Addr) : Obj := { cls := .type "list_iterator", data := .fields #[.ref l, .int 0 0] }
section
variable {prog : Program} {w : World} {A : Around} {E : Value → Shared → Prop} {s : Shared} {h₀ : Heap} {L : Addr} {m : Str → Option Value} {news : List (Addr × Obj)}
theorem iter_str_K {x : Str} {t : Tok} {Q : Value → Shared → Prop} (F : Fr h₀ L s.heap m) (N : News h₀ L s.heap news) (hx : x.cps.all (· < 128) = true)
    (h : ∀ I h', Fr h₀ L h' m → News h₀ L h' ((I, strIt x t) :: news) → (∀ p ∈ news, p.1 < I) → h₀.get? I = none → Q (.ref I) { s with heap := h' }) :
    wpAny (model prog w) A (call (.builtin "iter") [.str x t]) Q E s := by
  refine call_function_entry (by decide +kernel) (by decide +kernel) kdk_entry_iter (by unfold argsOk; kernel_rfl) ?_
  unfold Builtin.«iter»
  refine wpAny_bind (m := someArgs "iter" 1 2 _) (wpAny_of_eq (a := [Value.str x t]) (by first | rfl | kernel_rfl!) ?_)
  show wpAny _ _ (pyIter (.str x t) >>= _) _ _ _
  refine wpAny_bind (wpAny_pyIter_ascii hx ?_)
  have N' := News.push F N (strIt x t) rfl
  exact wpAny_pure ⟨_, rfl, h _ _ (F.push _) N' (fun q hq => Heap.lt_size (N q hq).1) (N' _ (.head _)).2.2⟩
theorem iter_list_K {l : Addr} {items : Array Value} {Q : Value → Shared → Prop} (F : Fr h₀ L s.heap m) (N : News h₀ L s.heap news) (hl : s.heap.IsList l items)
    (h : ∀ I h', Fr h₀ L h' m → News h₀ L h' ((I, listIt l) :: news) → (∀ p ∈ news, p.1 < I) → h₀.get? I = none → Q (.ref I) { s with heap := h' }) :
    wpAny (model prog w) A (call (.builtin "iter") [.ref l]) Q E s := by
  refine call_function_entry (by decide +kernel) (by decide +kernel) kdk_entry_iter (kdk_args_iter _) ?_
  unfold Builtin.«iter»
  refine wpAny_bind (m := someArgs "iter" 1 2 _) (wpAny_of_eq (a := [Value.ref l]) (by first | rfl | kernel_rfl!) ?_)
  show wpAny _ _ (pyIter (.ref l) >>= _) _ _ _
  refine wpAny_bind (wpAny_pyIter_list hl ?_)
  have N' := News.push F N (listIt l) rfl
  exact wpAny_pure ⟨_, rfl, h _ _ (F.push _) N' (fun q hq => Heap.lt_size (N q hq).1) (N' _ (.head _)).2.2⟩
end
theorem fnAt_kept {h₀ h : Heap} {L q : Addr} {m : Str → Option Value} (F : Fr h₀ L h m) (x : FnAt q h₀) : FnAt q h := by
  obtain ⟨a, b, c, d, e⟩ := x
  exact ⟨a, b, c, d, F.keep _ _ e⟩
theorem TurnJ.list' {h₀ h' : Heap} {L I o : Addr} {oI : Obj} {Jn : (Str → Option Value) → List (Addr × Obj) → Prop} {s : Shared} {m' : Str → Option Value} {all : List (Addr × Obj)} {tk' : Nat} {ws : Array Value} {n : Nat} {c : String} (hc : oI.cls = .type c) (hn : "list" ≠ c)
    (F : Fr h₀ L h' m') (N : News h₀ L h' all) (h1 : (I, oI) ∈ all) (h2 : (o, lobj ws n) ∈ all) (hJ : Jn m' [(o, lobj ws n)]) : TurnJ h₀ L I oI Jn s { s with heap := h', toks := tk' } := by
  refine ⟨h', tk', m', [(o, lobj ws n)], rfl, F, fun p hp => ?_, fun p hp e => ?_, hJ⟩
  · rcases List.mem_cons.mp hp with rfl | hp
    · exact N _ h1
    · rw [List.mem_singleton.mp hp]; exact N _ h2
  · rw [List.mem_singleton.mp hp] at e
    have e' : o = I := e
    subst e'
    have := Option.some.inj ((N.get h2).symm.trans (N.get h1))
    rw [← this] at hc
    exact absurd (Value.type.inj hc) hn
theorem is_list_other {M : Model} {A : Around} {E : Value → Shared → Prop} {s : Shared} {Q : Value → Shared → Prop} {x y : Addr} {its : Array Value} {oy : Obj} (hl : s.heap.IsList x its) (hy : s.heap.get? y = some oy) (hxy : x ≠ y) (hq : Q (.bool false) s) : wpAny M A (compareOp .Is (.ref x) (.ref y)) Q E s := by
  obtain ⟨o, ho, hc, _⟩ := hl
  exact wpAny_is_ref_other hxy ho hy (by rw [hc]; intro z; exact absurd (Value.type.inj z) (by decide)) hq
section
variable {prog : Program} {w : World} {A : Around} {E : Value → Shared → Prop} {s : Shared} {env : Env} {h₀ : Heap} {y : Str} {body : List Stmt} {Q : Flow → Shared → Prop}
theorem iter_strJ {I : Addr} {x : Str} {t : Tok} {m₀ : Str → Option Value} {news : List (Addr × Obj)} (J : Nat → (Str → Option Value) → List (Addr × Obj) → Prop)
    (hh : A.handled = none) (F : Fr h₀ env.locals s.heap m₀) (N : News h₀ env.locals s.heap ((I, strIt x t) :: news)) (hnw : ∀ p ∈ news, p.1 ≠ I) (hJ : J 0 m₀ news)
    (turn : ∀ i c u oI m₁ nw h tk, oI.cls = .type "str_ascii_iterator" → i < x.cps.size → x.cps[i]? = some c → J i m₁ nw → (∀ p ∈ nw, p.1 ≠ I) → Fr h₀ env.locals h (fun z => if z = y then some (.str ⟨#[c]⟩ u) else m₁ z) → News h₀ env.locals h ((I, oI) :: nw) →
      wpAny (model prog w) A (execs body env) (fun f s₂ => f = .next ∧ TurnJ h₀ env.locals I oI (J (i + 1)) s s₂) E { s with heap := h, toks := tk })
    (done : ∀ m₁ nw h tk, J x.cps.size m₁ nw → Fr h₀ env.locals h m₁ → News h₀ env.locals h nw → Q .next { s with heap := h, toks := tk }) :
    wpAny (model prog w) A (pyIter (.ref I)) (fun it s₂ => LoopAtV prog w A h₀ env y body Q E it s₂) E s := by
  have g := N _ (.head _)
  refine wpAny_pyIter_striter_ascii ⟨_, g.1, rfl, rfl⟩ ?_
  refine loopAt_J (Q := Q) J (Walks.strAscii hh I x t) (fun b hb => .inl (List.mem_singleton.mp hb)) (fun e => g.2.1 e.symm) g.2.2 (.type "str_ascii_iterator") (fun i h st => let ⟨o, a, b, _⟩ := st; ⟨o, a, b⟩) ⟨_, g.1, rfl, rfl⟩ F (fun p hp => N p (.tail _ hp)) hnw hJ ?_ done
  rintro i v oI m₁ nw h tk hc hi ⟨c, u, e, rfl⟩ hJ' ho F' N'
  exact turn i c u oI m₁ nw h tk hc hi e hJ' ho F' N'
theorem iter_listJ {I l : Addr} {items : Array Value} {m₀ : Str → Option Value} {news : List (Addr × Obj)} (J : Nat → (Str → Option Value) → List (Addr × Obj) → Prop)
    (hh : A.handled = none) (F : Fr h₀ env.locals s.heap m₀) (hl : h₀.IsList l items) (N : News h₀ env.locals s.heap ((I, listIt l) :: news)) (hnw : ∀ p ∈ news, p.1 ≠ I) (hJ : J 0 m₀ news)
    (turn : ∀ i v oI m₁ nw h tk, oI.cls = .type "list_iterator" → i < items.size → items[i]? = some v → J i m₁ nw → (∀ p ∈ nw, p.1 ≠ I) → Fr h₀ env.locals h (fun z => if z = y then some v else m₁ z) → News h₀ env.locals h ((I, oI) :: nw) →
      wpAny (model prog w) A (execs body env) (fun f s₂ => f = .next ∧ TurnJ h₀ env.locals I oI (J (i + 1)) s s₂) E { s with heap := h, toks := tk })
    (done : ∀ m₁ nw h tk, J items.size m₁ nw → Fr h₀ env.locals h m₁ → News h₀ env.locals h nw → Q .next { s with heap := h, toks := tk }) :
    wpAny (model prog w) A (pyIter (.ref I)) (fun it s₂ => LoopAtV prog w A h₀ env y body Q E it s₂) E s := by
  have g := N _ (.head _)
  have hne : l ≠ I := fun e => by
    obtain ⟨o, ho, _⟩ := hl
    rw [e, g.2.2] at ho; cases ho
  have hls := F.lst hl
  refine wpAny_pyIter_listiter (l := l) (i := 0) ⟨_, g.1, rfl, rfl⟩ ?_
  refine loopAt_J (Q := Q) J (Walks.list hh I l hne items) (fun b hb => ?_) (fun e => g.2.1 e.symm) g.2.2 (.type "list_iterator") (fun i h st => let ⟨⟨o, a, b, _⟩, _⟩ := st; ⟨o, a, b⟩) ⟨⟨_, g.1, rfl, rfl⟩, hls⟩ F (fun p hp => N p (.tail _ hp)) hnw hJ ?_ done
  · rcases List.mem_cons.mp hb with rfl | hb
    · exact .inl rfl
    · rw [List.mem_singleton.mp hb]
      obtain ⟨o, ho, _⟩ := hl
      exact .inr ⟨o, ho⟩
  · intro i v oI m₁ nw h tk hc hi e hJ' ho F' N'
    exact turn i v oI m₁ nw h tk hc hi e hJ' ho F' N'
end
section
variable {prog : Program} {w : World} {A₀ A : Around} {s : Shared} {m mg mb : Str → Option Value} {tb : List (Addr × Obj)} {K : Frag} {p : Program} {loose : List Str} {mean : ExcName → Option Value} {R : Result → Shared → Prop}
theorem enterL {name qual : Str} {params : Arguments} {body : PySem.Expr} {scope : Scope} {cl : List (Str × Addr)} {pm ctv : Value} {c' : Addr} {f : Addr} {args : Args} {binds : List (Str × Value)}
    (g : Heap) (hg : g = hideAll s.heap (tb.map (·.1))) (htb : ∀ q ∈ tb, s.heap.get? q.1 = some q.2) (T : Top p loose mean mg mb g)
    (ho : s.heap.get? f = some (kla_obj name qual params body scope cl pm c' ctv)) (hcd : s.heap.CodeRec (.ref c') qual) (hroom : A.depth < recursionLimit)
    (hbind : bindArgs (kla_fn name qual params body scope cl pm (.ref c') ctv) args = pure binds) (hloc : ∀ y ∈ binds, scope.names.lookup y.1 = some .local)
    (h : ∀ L' h₁, Fr g L' h₁ (fun y => binds.reverse.lookup y) → News g L' h₁ tb → (∀ q ∈ tb, q.1 < L') →
      wpAny (model prog w) (A.deeper (envX qual scope L' f (.ref c') cl)) (eval body (envX qual scope L' f (.ref c') cl))
        (fun v s' => R (.ok (.ret v)) s')
        (fun e s' => wpAny (model prog w) (A.deeper (envX qual scope L' f (.ref c') cl)) (leaving (envX qual scope L' f (.ref c') cl) e) (fun _ s'' => R (.error e) s'') (fun e' s'' => R (.error e') s'') s')
        { s with heap := h₁, toks := s.toks + binds.length })
    (hco : scope.isCoroutine = false) (hgen : scope.isGenerator = false) (hk : scope.kind = .function)
    (hcell : ∀ x ∈ scope.names, x.2 ≠ .cell) : codeAny (model prog w) A (.call (.ref f) args) R s := by
  subst hg
  have up : ∀ b o, (hideAll s.heap (tb.map (·.1))).get? b = some o → s.heap.get? b = some o := fun b o e => of_hideAll _ e
  refine kla_callFunE hroom ho rfl hco hgen rfl hcd ?_
  rw [hbind]
  refine wpAny_pure (wpAny_newFunctionEnv hcell hloc (fun h₁ hns hsb => ⟨(T.nolimit.keeps up).fresh _ hsb, ?_⟩) hk)
  show codeAny _ _ (.expr body (envX qual scope s.heap.objs.size f (.ref c') cl)) _ _
  have hk₁ : ∀ b o, s.heap.get? b = some o → h₁.get? b = some o := fun b o e => hsb.extBut b o (Nat.ne_of_lt (Heap.lt_size e)) (Heap.get?_push_of_some _ e)
  exact kla_codeExpr (h s.heap.objs.size h₁ ⟨hns, fun b o e => hk₁ b o (up b o e), Nat.le_of_eq (hideAll_size _ _)⟩
    (fun q hq => ⟨hk₁ _ _ (htb q hq), Nat.ne_of_lt (Heap.lt_size (htb q hq)), hideAll_none _ (List.mem_map_of_mem hq)⟩) fun q hq => Heap.lt_size (htb q hq))
end
end
section
-- text S45
open PySem PySem.W PyProof.Rows PySem.Calls
set_option maxHeartbeats 8000000
def Zof (ps : List Part) (x : Str) (i : Nat) : List Int := (x.cps.toList.take i).foldl (fun zs c => closeF ps (stepF ps c zs) (ps.length + 1)) (closeF ps [0] (ps.length + 1))
def takesF (ps : List Part) (x : Str) : Bool := (Zof ps x x.cps.size).any (fun z => z == (ps.length : Int))
theorem Zof_succ {ps : List Part} {x : Str} {i c : Nat} (h : x.cps[i]? = some c) : Zof ps x (i + 1) = closeF ps (stepF ps c (Zof ps x i)) (ps.length + 1) := by
  unfold Zof
  have h' : x.cps.toList[i]? = some c := by simpa using h
  rw [List.take_add_one, h', List.foldl_append]
  rfl
theorem closeF_nonneg (ps : List Part) (zs : List Int) (n : Nat) : ∀ z ∈ closeF ps zs n, 0 ≤ z := by
  induction n with
  | zero => simp [closeF]
  | succ n ih =>
    rw [closeF_succ]
    unfold closeStep
    split
    · intro z hz
      rcases List.mem_append.mp hz with h | h
      · exact ih z h
      · rw [List.mem_singleton.mp h]; omega
    · exact ih
theorem Zof_form (ps : List Part) (x : Str) (i : Nat) : ∃ zs, Zof ps x i = closeF ps zs (ps.length + 1) := by
  unfold Zof
  generalize x.cps.toList.take i = l
  suffices H : ∀ (l : List Nat) (a : List Int), (∃ zs, a = closeF ps zs (ps.length + 1)) → ∃ zs, l.foldl (fun zs c => closeF ps (stepF ps c zs) (ps.length + 1)) a = closeF ps zs (ps.length + 1) from H l _ ⟨_, rfl⟩
  intro l
  induction l with
  | nil => intro a h; exact h
  | cons c l ih => intro a _; exact ih _ ⟨_, rfl⟩
theorem Zof_len {ps : List Part} {x : Str} {i : Nat} (hps : ps.length ≤ 8) : (Zof ps x i).length ≤ 20 := by
  obtain ⟨zs, e⟩ := Zof_form ps x i
  rw [e]
  have := closeF_len ps zs (ps.length + 1)
  omega
theorem Zof_nonneg (ps : List Part) (x : Str) (i : Nat) : ∀ z ∈ Zof ps x i, 0 ≤ z := by
  obtain ⟨zs, e⟩ := Zof_form ps x i
  rw [e]; exact closeF_nonneg _ _ _
section
variable {M : Model} {A : Around} {E : Value → Shared → Prop} {s : Shared} {h₀ : Heap} {L a : Addr} {m : Str → Option Value} {cn : Str} {cs : Scope} {ccd : Value} {cl : List (Str × Addr)} {x : Str} {pos : Pos} {v : Value} {Q : Value → Shared → Prop} {c : Addr}
def CellAt (h : Heap) (c : Addr) (v : Value) : Prop := ∃ o, h.get? c = some o ∧ o.data = .cell (some v)
theorem CellAt.keeps {h h' : Heap} {c : Addr} {v : Value} (x : CellAt h c v) (k : ∀ b o, h.get? b = some o → h'.get? b = some o) : CellAt h' c v := let ⟨o, a, b⟩ := x; ⟨o, k _ _ a, b⟩
theorem nameX_old (F : Fr h₀ L s.heap m) (hc : cl.lookup x = some c) (hv : CellAt h₀ c v) (h : Q v s)
    (hk : cs.kind = .function := by rfl) (hx : (envX cn cs L a ccd cl).kindOf x = some .free := by rfl) (hb : (x == ("__debug__" : Str)) = false := by decide) (hn : (x == ("__classdict__" : Str)) = false := by decide) :
    wpAny M A (eval (.Name x pos) (envX cn cs L a ccd cl)) Q E s := by
  obtain ⟨o, ho, hd⟩ := hv
  exact wpAny_Name (wpAny_loadName_free hk hx hc ⟨o, F.keep _ _ ho, hd⟩ h hn) hb
end
theorem ne_of_old {h₀ : Heap} {L : Addr} {h : Heap} {news : List (Addr × Obj)} {a b : Addr} {oa ob : Obj} (N : News h₀ L h news) (hm : (a, oa) ∈ news) (hb : h₀.get? b = some ob) : a ≠ b := fun e => by
  have := (N _ hm).2.2
  rw [show ((a, oa) : Addr × Obj).1 = b from e, hb] at this
  cases this
def WarmAt (h : Heap) (c : Addr) : Prop := ∃ oc vs t, h.get? 118 = some (tabObj #[rawInt 163, rawInt 32, .ref c]) ∧ h.get? c = some oc ∧ oc.data = .fields vs ∧ vs[1]? = some (.str (Str.ofString "_law_takes.<locals>.<lambda>") t)
theorem not_hidden {h : Heap} {l : List Addr} {a : Addr} (ha : a ∉ l) (e : (hideAll h l).get? a = none) : h.get? a = none := by
  cases q : h.get? a with
  | none => rfl
  | some o => rw [hideAll_get l q ha] at e; cases e
end
section
-- text T45
open PySem PySem.W PyProof.Rows PySem.Calls
set_option maxHeartbeats 8000000
def lamQ : Str := Str.ofString "_law_takes.<locals>.<lambda>"
def Warm118 (tb : List (Addr × Obj)) : Prop := ∃ c oc vs t, tb = [(118, tabObj #[rawInt 163, rawInt 32, .ref c]), (c, oc)] ∧ c ≠ 118 ∧ oc.data = .fields vs ∧ vs[1]? = some (.str (Str.ofString "_law_takes.<locals>.<lambda>") t)
def Tabs118 (tb : List (Addr × Obj)) : Prop := tb = [(118, tabObj #[])] ∨ Warm118 tb
structure TabStep (h h' : Heap) (tb tb' : List (Addr × Obj)) : Prop where
  st : Warm118 tb'
  at' : ∀ q ∈ tb', h'.get? q.1 = some q.2
  fresh : ∀ q ∈ tb', q.1 ∈ tb.map (·.1) ∨ h.get? q.1 = none
  old : ∀ q ∈ tb, q.1 ∈ tb'.map (·.1)
theorem after_tab {h₀ h h' : Heap} {L : Addr} {m : Str → Option Value} {tb tb' rest : List (Addr × Obj)} (F : Fr h₀ L h m) (N : News h₀ L h (tb ++ rest)) (hr : ∀ p ∈ rest, p.1 ∉ tb.map (·.1))
    (k : ∀ b o, (hideAll h (tb.map (·.1))).get? b = some o → h'.get? b = some o) (t : TabStep h h' tb tb') : Fr h₀ L h' m ∧ News h₀ L h' (tb' ++ rest) := by
  have hL : L ∉ tb.map (·.1) := fun e => by
    obtain ⟨q, hq, e⟩ := List.mem_map.mp e
    exact (N q (List.mem_append_left _ hq)).2.1 e
  have up : ∀ b o, b ∉ tb.map (·.1) → h.get? b = some o → h'.get? b = some o := fun b o hb e => k b o (hideAll_get _ e hb)
  have old : ∀ b o, h₀.get? b = some o → b ∉ tb.map (·.1) := fun b o e hb => by
    obtain ⟨q, hq, e'⟩ := List.mem_map.mp hb
    have := (N q (List.mem_append_left _ hq)).2.2
    rw [e', e] at this; cases this
  refine ⟨⟨?_, fun b o e => up b o (old b o e) (F.keep b o e), F.above⟩, fun p hp => ?_⟩
  · obtain ⟨oL, a1, a2, hL', a3⟩ := F.ns
    exact ⟨oL, a1, a2, up _ _ hL hL', a3⟩
  · rcases List.mem_append.mp hp with hp | hp
    · refine ⟨t.at' p hp, fun e => ?_, ?_⟩
      · rcases t.fresh p hp with h1 | h1
        · rw [e] at h1; exact hL h1
        · obtain ⟨oL, _, _, hL', _⟩ := F.ns
          rw [e, hL'] at h1; cases h1
      · cases q : h₀.get? p.1 with
        | none => rfl
        | some o =>
          rcases t.fresh p hp with h1 | h1
          · exact absurd h1 (old _ _ q)
          · have := F.keep _ _ q
            rw [h1] at this; cases this
    · have n := N p (List.mem_append_right _ hp)
      exact ⟨up _ _ (hr p hp) n.1, n.2⟩
section
variable {prog : Program} {w : World} {A₀ A : Around} {s : Shared} {base h₀ : Heap} {outer fr : List Env} {L : Addr} {m mg mb : Str → Option Value} {env : Env} {tb rest : List (Addr × Obj)} {K : Frag} {p : Program} {loose : List Str} {mean : ExcName → Option Value}
  {R : Result → Shared → Prop}
theorem useT {d u : Nat} {M : Model} {c : Code} (B : Below A₀ base outer h₀) (F : Fr h₀ L s.heap m) (N : News h₀ L s.heap tb) (X : K.In h₀) (T : Top p loose mean mg mb h₀) (hA : A.frames = some (env :: outer)) (hf : env.frame = some L) (hke : env.scope.kind = .function)
    (hh : A.handled = none) (hd : A.depth ≤ d) (hu : A.units ≤ u)
    (spec : ∀ g, g = hideAll s.heap (tb.map (·.1)) → h₀.StaysIn g → Below (AA d u (env :: outer)) base (env :: outer) g → K.In g → Top p loose mean mg mb g → codeAny M (AA d u (env :: outer)) c R s) : codeAny M A c R s := by
  obtain ⟨b, st⟩ := below_of (news := tb) B F N hA hf hke
  refine code_lower hh hd hA hu (spec _ rfl st ?_ (X.keeps st) (T.keeps st))
  exact ⟨rfl, b.stays, b.frames⟩
end
end
section
-- text U45
open PySem PySem.W PyProof.Rows PySem.Calls
set_option maxHeartbeats 8000000
section
variable {M : Model} {A : Around} {E : Value → Shared → Prop} {s : Shared}
theorem newEnv_one {scope : Scope} {globals : Addr} {cl : List (Str × Addr)} {n : Str} {v : Value} {qual : Str} {func : Option Addr} {code : Value} {builtins : Addr} {Q : Env → Shared → Prop}
    (hk : scope.kind = .function) (hl : scope.names.lookup n = some .cell) (hcells : ∀ k, cellsFrom k scope.names cl = (n, k) :: cl) (hpush : ∀ h, pushCells h scope.names = h.push { cls := .type "cell", data := .cell none })
    (hQ : ∀ h₁ o, h₁.Ns s.heap.objs.size (fun _ => none) → (∀ b o, s.heap.get? b = some o → h₁.get? b = some o) → h₁.get? (s.heap.objs.size + 1) = some o → o.data = .cell (some v) →
      Q (newEnv scope s.heap.objs.size globals ((n, s.heap.objs.size + 1) :: cl) qual func code none builtins) { s with heap := h₁ }) :
    wpAny M A (newFunctionEnv scope globals cl [(n, v)] qual func code none builtins) Q E s := by
  simp only [newFunctionEnv, Option.isSome_none, Bool.false_eq_true, if_false]
  refine wpAny_bind (wpAny_alloc ?_)
  refine wpAny_bind (wpAny_layCells _ (fun name kind cells => by cases hkc : kind == NameKind.cell <;> simp [hkc]) _ _ _ _ ?_)
  rw [show ({ s with heap := s.heap.push { cls := .type "frame", data := .dict #[] } } : Shared).heap.objs.size = s.heap.objs.size + 1 from Heap.size_push .., hcells, hpush]
  rw [List.forIn_cons]
  have hcell : ((s.heap.push { cls := .type "frame", data := .dict #[] }).push { cls := .type "cell", data := .cell none }).IsCell (s.heap.objs.size + 1) none := ⟨_, by rw [← Heap.size_push]; exact Heap.get?_push_size _ rfl, rfl⟩
  refine wpAny_bind (wpAny_bind (wpAny_bind (wpAny_storeName_cell (env := newEnv scope s.heap.objs.size globals ((n, s.heap.objs.size + 1) :: cl) qual func code none builtins) hk hl (by simp [newEnv]) hcell fun h' hc' hs' => ?_)))
  refine wpAny_pure (wpAny_pure ?_)
  refine wpAny_pure ?_
  obtain ⟨o, ho, hd⟩ := hc'
  have up : ∀ b o, b ≠ s.heap.objs.size + 1 → ((s.heap.push { cls := .type "frame", data := .dict #[] }).push { cls := .type "cell", data := .cell none }).get? b = some o → h'.get? b = some o := fun b o hb e => (hs'.2 b hb).trans e
  refine hQ h' o ?_ (fun b o e => up b o (Nat.ne_of_lt (Nat.lt_succ_of_lt (Heap.lt_size e))) (Heap.get?_push_of_some _ (Heap.get?_push_of_some _ e))) ho hd
  exact (((Heap.Ns.new s.heap (.type "frame")).keeps fun b o e => Heap.get?_push_of_some _ e).sameBut hs' (Nat.ne_of_lt (Nat.lt_succ_self _)))
end
section
variable {prog : Program} {w : World} {A₀ A : Around} {s : Shared} {m mg mb : Str → Option Value} {tb : List (Addr × Obj)} {K : Frag} {p : Program} {loose : List Str} {mean : ExcName → Option Value} {R : Result → Shared → Prop}
theorem enterL1 {name qual : Str} {params : Arguments} {body : PySem.Expr} {scope : Scope} {cl : List (Str × Addr)} {pm ctv : Value} {c' : Addr} {f : Addr} {args : Args} {n : Str} {v : Value}
    (g : Heap) (hg : g = hideAll s.heap (tb.map (·.1))) (htb : ∀ q ∈ tb, s.heap.get? q.1 = some q.2) (T : Top p loose mean mg mb g)
    (ho : s.heap.get? f = some (kla_obj name qual params body scope cl pm c' ctv)) (hcd : s.heap.CodeRec (.ref c') qual) (hroom : A.depth < recursionLimit)
    (hbind : bindArgs (kla_fn name qual params body scope cl pm (.ref c') ctv) args = pure [(n, v)])
    (hl : scope.names.lookup n = some .cell) (hcells : ∀ k, cellsFrom k scope.names cl = (n, k) :: cl) (hpush : ∀ h, pushCells h scope.names = h.push { cls := .type "cell", data := .cell none })
    (h : ∀ L' h₁ o, Fr g L' h₁ (fun _ => none) → News g L' h₁ ((L' + 1, o) :: tb) → o.data = .cell (some v) → (∀ q ∈ tb, q.1 < L') →
      wpAny (model prog w) (A.deeper (envX qual scope L' f (.ref c') ((n, L' + 1) :: cl))) (eval body (envX qual scope L' f (.ref c') ((n, L' + 1) :: cl)))
        (fun v s' => R (.ok (.ret v)) s')
        (fun e s' => wpAny (model prog w) (A.deeper (envX qual scope L' f (.ref c') ((n, L' + 1) :: cl))) (leaving (envX qual scope L' f (.ref c') ((n, L' + 1) :: cl)) e) (fun _ s'' => R (.error e) s'') (fun e' s'' => R (.error e') s'') s')
        { s with heap := h₁ })
    (hco : scope.isCoroutine = false) (hgen : scope.isGenerator = false) (hk : scope.kind = .function) : codeAny (model prog w) A (.call (.ref f) args) R s := by
  subst hg
  have up : ∀ b o, (hideAll s.heap (tb.map (·.1))).get? b = some o → s.heap.get? b = some o := fun b o e => of_hideAll _ e
  refine kla_callFunE hroom ho rfl hco hgen rfl hcd ?_
  rw [hbind]
  refine wpAny_pure (newEnv_one hk hl hcells hpush fun h₁ o hns hk₁ ho1 hd => ⟨(T.nolimit.keeps up).keeps hk₁, ?_⟩)
  show codeAny _ _ (.expr body (envX qual scope s.heap.objs.size f (.ref c') ((n, s.heap.objs.size + 1) :: cl))) _ _
  refine kla_codeExpr (h s.heap.objs.size h₁ o ⟨hns, fun b o e => hk₁ b o (up b o e), Nat.le_of_eq (hideAll_size _ _)⟩ (fun q hq => ?_) hd fun q hq => Heap.lt_size (htb q hq))
  rcases List.mem_cons.mp hq with rfl | hq
  · exact ⟨ho1, Nat.ne_of_gt (Nat.lt_succ_self _), Heap.get?_none_of_le (by rw [hideAll_size]; exact Nat.le_succ _)⟩
  · exact ⟨hk₁ _ _ (htb q hq), Nat.ne_of_lt (Heap.lt_size (htb q hq)), hideAll_none _ (List.mem_map_of_mem hq)⟩
end
end
section
-- text V45
open PySem PySem.W PyProof.Rows PySem.Calls
set_option maxHeartbeats 8000000
def RuleAt (h : Heap) (v : Value) (r : Int × List Part) : Prop := ∃ a t lp vs, v = .ref a ∧ h.IsList a #[.int r.1 t, .ref lp] ∧ h.IsList lp vs.toArray ∧ PAre vs r.2 ∧ r.2.length ≤ 8
inductive RulesAre (h : Heap) : List Value → List (Int × List Part) → Prop where
  | nil : RulesAre h [] []
  | cons {v : Value} {r : Int × List Part} {vs : List Value} {rs : List (Int × List Part)} : RuleAt h v r → RulesAre h vs rs → RulesAre h (v :: vs) (r :: rs)
theorem RuleAt.keeps {h h' : Heap} {v : Value} {r : Int × List Part} (x : RuleAt h v r) (k : ∀ b o, h.get? b = some o → h'.get? b = some o) : RuleAt h' v r := by
  obtain ⟨a, t, lp, vs, e, ⟨o, o1, o2⟩, ⟨p, p1, p2⟩, q, l⟩ := x
  exact ⟨a, t, lp, vs, e, ⟨o, k _ _ o1, o2⟩, ⟨p, k _ _ p1, p2⟩, q, l⟩
theorem RulesAre.keeps {h h' : Heap} {vs : List Value} {rs : List (Int × List Part)} (x : RulesAre h vs rs) (k : ∀ b o, h.get? b = some o → h'.get? b = some o) : RulesAre h' vs rs := by
  induction x with
  | nil => exact .nil
  | cons a _ ih => exact .cons (a.keeps k) ih
theorem RulesAre.length {h : Heap} {vs : List Value} {rs : List (Int × List Part)} (x : RulesAre h vs rs) : vs.length = rs.length := by
  induction x with
  | nil => rfl
  | cons _ _ ih => simp [ih]
theorem RulesAre.append {h : Heap} {vs vs' : List Value} {rs rs' : List (Int × List Part)} (x : RulesAre h vs rs) (y : RulesAre h vs' rs') : RulesAre h (vs ++ vs') (rs ++ rs') := by
  induction x with
  | nil => exact y
  | cons a _ ih => exact .cons a ih
theorem RulesAre.reverse {h : Heap} {vs : List Value} {rs : List (Int × List Part)} (x : RulesAre h vs rs) : RulesAre h vs.reverse rs.reverse := by
  induction x with
  | nil => exact .nil
  | cons a _ ih => rw [List.reverse_cons, List.reverse_cons]; exact ih.append (.cons a .nil)
theorem RulesAre.get {h : Heap} {vs : List Value} {rs : List (Int × List Part)} (x : RulesAre h vs rs) : ∀ {i : Nat} {v : Value}, vs[i]? = some v → ∃ r, rs[i]? = some r ∧ RuleAt h v r := by
  induction x with
  | nil => intro i v e; simp at e
  | cons a _ ih =>
    intro i v e
    cases i with
    | zero => simp at e; subst e; exact ⟨_, rfl, a⟩
    | succ i => simpa using ih (by simpa using e)
def Vof (rs : List (Int × List Part)) (x : Str) (i : Nat) : Int := (rs.take i).foldl (fun told r => if takesF r.2 x = true then r.1 else told) 2
theorem Vof_succ {rs : List (Int × List Part)} {x : Str} {i : Nat} {r : Int × List Part} (h : rs[i]? = some r) : Vof rs x (i + 1) = if takesF r.2 x = true then r.1 else Vof rs x i := by
  unfold Vof
  rw [List.take_add_one, h, List.foldl_append]
  rfl
def WarmF (P0 : Addr) (tb : List (Addr × Obj)) : Prop := ∃ c2 oc2 vs2 t2 tb', tb = (P0, tabObj #[rawInt 187, rawInt 31, .ref c2]) :: (c2, oc2) :: tb' ∧ Warm118 tb' ∧ oc2.data = .fields vs2 ∧ vs2[1]? = some (.str (Str.ofString "law.<locals>.<lambda>.<locals>.<lambda>") t2) ∧
  c2 ≠ P0 ∧ (∀ q ∈ tb', q.1 ≠ P0 ∧ q.1 ≠ c2)
end
section
-- text C1
open PySem PySem.W PyProof.Rows PySem.Calls
set_option maxHeartbeats 8000000
def pat (x : Int) : Str := Txt.join (Str.ofString "")
  [Txt.item (Str.ofString "ab?**") (((x.fdiv 2).fdiv (5 ^ ((0 : Int) + ((0 : Nat) : Int)).toNat)).fmod 5),
   Txt.item (Str.ofString "ab?**") (((x.fdiv 2).fdiv (5 ^ ((0 : Int) + ((0 + 1 : Nat) : Int)).toNat)).fmod 5),
   Txt.item (Str.ofString "ab?**") (((x.fdiv 2).fdiv (5 ^ ((0 : Int) + ((0 + 1 + 1 : Nat) : Int)).toNat)).fmod 5)]
theorem rows_C1 : True := by
  k_with "mine enter0" => ((refine' enterS (by k_asm) (by k_asm) (by k_is) (by k_is) (by exact Nat.le_of_ble_eq_true rfl) (by exact BindsTo.of_eq rfl) (by exact locs rfl) ?_ (by exact rfl) (by exact rfl) (by exact rfl) (by decide); k_whole; intro L' h' F' N'); (try (revert L' h' F' N'; intros)))
  k_with "mine enterC" => ((refine' enterSC (by k_asm) (by k_asm) (by k_is) (by k_is) (by exact Nat.le_of_ble_eq_true rfl) (by exact BindsTo.of_eq rfl) (by exact rfl) (by decide +kernel) ?_ (by exact rfl) (by exact rfl) (by exact rfl); k_whole; intro L' h' tk' cells' F' N' Y'; k_cells Y'; (try simp only [List.cons_append, List.nil_append, List.append_nil] at N')); (try (revert L' h' tk' cells' F' N' Y'; intros)))
  k_with "eval ListComp" => (k_here; lcf_look; k_dflt (refine LCg.ListComp_U (F₀ := by k_asm) (by with_unfolding_all rfl) (by decide) (by rfl) (by decide) (by rfl) ?_); k_dflt lcg_toSrc)
  k_with "CompSrc" => (k_here; k_dflt (first | (refine LCg.CompSrc.ledger (by rfl) (by k_asm) (by k_asm) (by k_mem) (by first | size_fits | exact Nat.le_of_ble_eq_true rfl) ?_; intro g'; lcg_lit) | (refine LCg.CompSrc.base (by rfl) (by k_asm) (by k_asm) (by assumption) (by first | size_fits | exact Nat.le_of_ble_eq_true rfl) ?_; intro g'; lcg_lit) | (refine LCg.CompSrc.range (by rfl) (by k_asm) (by k_asm) (by assumption) (by first | decide | rfl) (by first | rfl | decide) (by first | size_fits | exact Nat.le_of_ble_eq_true rfl) ?_; intro g'; lcg_lit)))
  trivial
theorem pattern_spec : ∀ (w : World) (mean : ExcName → Option Value) (mg mb : Str → Option Value) (x : Int) (tx : Tok)
    (fr : List Env) (A₀ : Around) (base : Heap) (s : Shared) (R : Result → Shared → Prop)
    (B : Below (AA 390 900 fr) base fr s.heap) (X : (Mine.heap39 w.params).In s.heap) (T : Top topProg looseG mean mg mb s.heap)
    (hret : ∀ (t : Tok) (h' : Heap) (tk' : Nat), (∀ b o, s.heap.get? b = some o → h'.get? b = some o) → R (.ok (.ret (.str (pat x) t))) { s with heap := h', toks := tk' }),
    codeAny (model PySem.Challenge.rw_in0045_01.row.prog w) (AA 390 900 fr) (.call (.ref 104) ⟨[.int x tx], []⟩) R s := by
  k_fill
  intro w mean mg mb x tx fr A₀ base s R B X T hret
  (first | k_dflt walk_at "mine enterC" | fail "not entered")
  k_steps
  all_goals exact hret _ _ _ (Fr.keep (by assumption))
end
section
-- text C2
open PySem PySem.W PyProof.Rows PySem.Calls
set_option maxHeartbeats 8000000
theorem rows_C2 : True := by
  k_with "getMethod str" => ((with_reducible show wpAny _ _ (getMethod (Value.str _ _) (PySem.Str.ofString "translate") _) _ _ _); refine GM.of _ (typeIs_str _ _ _) F.slot_str_translate F.type_str_translate GM.noRef ?_)
  k_with "call builtin:str.translate" => ((k_here; k_dflt (refine' translate_K (by k_asm) (by k_asm) (by k_asm) (by k_is) (by decide +kernel) (by assumption) (by rfl) (by rfl) (by rename _ ∨ _ => hn9; rcases hn9 with e | e <;> (rw [e]; decide +kernel)) ?_; k_whole); intro t9 h9 tk9 F9 N9); (try (revert t9 h9 tk9 F9 N9; intros)))
  trivial
theorem escape_spec : ∀ (w : World) (mean : ExcName → Option Value) (mg mb : Str → Option Value) (n : Nat) (hn : n = 97 ∨ n = 98) (tx : Tok)
    (fr : List Env) (base : Heap) (s : Shared) (R : Result → Shared → Prop)
    (B : Below (AA 390 900 fr) base fr s.heap) (X : (Mine.heap39 w.params).In s.heap) (T : Top topProg looseG mean mg mb s.heap)
    (hret : ∀ (t : Tok) (h' : Heap) (tk' : Nat), (∀ b o, s.heap.get? b = some o → h'.get? b = some o) → R (.ok (.ret (.str ⟨#[n]⟩ t))) { s with heap := h', toks := tk' }),
    codeAny (model PySem.Challenge.rw_in0045_01.row.prog w) (AA 390 900 fr) (.call (.ref 76) ⟨[.str ⟨#[n]⟩ tx], []⟩) R s := by
  k_fill
  intro w mean mg mb n hn tx fr base s R B X T hret
  (first | k_dflt walk_at "mine enter0" | fail "not entered")
  k_steps
  all_goals exact hret _ _ _ (Fr.keep (by assumption))
end
section
-- text C3
open PySem PySem.W PyProof.Rows PySem.Calls
set_option maxHeartbeats 8000000
theorem rows_C3 : True := by
  k_with_none
  k_with "mine sides0" => ((case k3 => k_asm); (case k5 => k_asm); (case k6 => k_is); (case k7 => k_is); (case k8 => exact Nat.le_of_ble_eq_true rfl); (case k9 => exact BindsTo.of_eq rfl); (case c5 => decide); (case kB => exact locs rfl); (case c2 => exact rfl); (case c3 => exact rfl); (case c4 => exact rfl))
  k_with "mine enter0" => ((refine' enterS (by k_asm) (by k_asm) (by k_is) (by k_is) (by exact Nat.le_of_ble_eq_true rfl) (by exact BindsTo.of_eq rfl) (by exact locs rfl) ?_ (by exact rfl) (by exact rfl) (by exact rfl) (by decide); k_whole; intro L' h' F' N'); (try (revert L' h' F' N'; intros)))
  k_with "mine enterC" => ((refine' enterSC (by k_asm) (by k_asm) (by k_is) (by k_is) (by exact Nat.le_of_ble_eq_true rfl) (by exact BindsTo.of_eq rfl) (by exact rfl) (by decide +kernel) ?_ (by exact rfl) (by exact rfl) (by exact rfl); k_whole; intro L' h' tk' cells' F' N' Y'; k_cells Y'; (try simp only [List.cons_append, List.nil_append, List.append_nil] at N')); (try (revert L' h' tk' cells' F' N' Y'; intros)))
  k_with "eval ListComp" => (k_here; lcf_look; k_dflt (refine LCg.ListComp_U (F₀ := by k_asm) (by with_unfolding_all rfl) (by decide) (by rfl) (by decide) (by rfl) ?_); k_dflt lcg_toSrc)
  k_with "CompSrc" => (k_here; k_dflt (first | (refine LCg.CompSrc.ledger (by rfl) (by k_asm) (by k_asm) (by k_mem) (by first | size_fits | exact Nat.le_of_ble_eq_true rfl) ?_; intro g'; lcg_lit) | (refine LCg.CompSrc.base (by rfl) (by k_asm) (by k_asm) (by assumption) (by first | size_fits | exact Nat.le_of_ble_eq_true rfl) ?_; intro g'; lcg_lit) | (refine LCg.CompSrc.range (by rfl) (by k_asm) (by k_asm) (by assumption) (by first | decide | rfl) (by first | rfl | decide) (by first | size_fits | exact Nat.le_of_ble_eq_true rfl) ?_; intro g'; lcg_lit)))
  k_with "getMethod str" => ((with_reducible show wpAny _ _ (getMethod (Value.str _ _) (PySem.Str.ofString "translate") _) _ _ _); refine GM.of _ (typeIs_str _ _ _) F.slot_str_translate F.type_str_translate GM.noRef ?_)
  k_with "call builtin:str.translate" => ((k_here; k_dflt (refine' translate_K (by k_asm) (by k_asm) (by k_asm) (by k_is) (by decide +kernel) (by assumption) (by rfl) (by rfl) (by rename _ ∨ _ => hn9; rcases hn9 with e | e <;> (rw [e]; decide +kernel)) ?_; k_whole); intro t9 h9 tk9 F9 N9); (try (revert t9 h9 tk9 F9 N9; intros)))
  k_with "getAttr ref" => ((k_here; (with_reducible show wpAny _ _ (getAttr (Value.ref _) (PySem.Str.ofString "append") _) _ _ _); k_dflt (refine' getAttr_append_K (by k_asm) (by k_asm) (by k_mem) ?_; k_whole); intro u' h' tk' F' N' l1; (try k_lt l1); (try k_sweep)); (try (revert u' h' tk' F' N' l1; intros)))
  k_with "callWith ref" => (k_here; (with_reducible show wpAny _ _ (callWith _ (Value.ref _) _ (backTo _ (starEach (_ :: _) _)) []) _ _ _); k_dflt (refine' callWith_bnd_K (by k_asm) (by k_mem) ?_; k_whole))
  k_with "And" => ((with_reducible show BndAt _ _ _ _ ∧ _); k_dflt (refine ⟨bndAt_of (by k_asm) (by k_mem), ?_⟩); (try dsimp only [List.nil_append, List.cons_append]))
  k_with "call ref" => ((k_here; k_dflt (refine' call_bnd_append_K (by k_asm) (by k_asm) (by k_mem) (by k_updF) (by first | assumption | size_fits | exact Nat.le_of_ble_eq_true rfl) ?_; k_whole); intro h' F' N'; (try dsimp only at N'); (try k_sweep)); (try (revert h' F' N'; intros)))
  k_with "exec While Compare cons nil" => (k_here; (with_reducible show wpAny _ _ (exec (Stmt.While _ _ _ _) _) _ _ _); refine Stop.go ?_)
  k_with "call builtin:len" => ((k_here; (with_reducible show wpAny _ _ (call (Value.builtin "len") [Value.str (Str.mk _) _]) _ _ _); (first | refine len_known 3 rfl rfl ?_ | refine len_known 2 rfl rfl ?_ | refine len_known 1 rfl rfl ?_ | refine len_known 0 rfl rfl ?_); intro t9 k9); (try (revert t9 k9; intros)))
  k_with "subscriptTail Name Name str int" => ((k_here; (with_reducible show wpAny _ _ (subscriptTail _ _ (Value.str _ _) (Value.int _ _)) _ _ _); k_dflt (refine' item_at (by assumption) (by omega) ?_; k_whole); intro t9 k9); (try (revert t9 k9; intros)))
  k_with "subscriptTail" => (k_here; (with_reducible show wpAny _ _ (subscriptTail _ _ (Value.ref _) (Value.int (-1) _)) _ _ _); k_dflt (refine' item_last (by k_asm) (by k_mem) (by omega) ?_; k_whole))
  k_with "truthy ref" => ((k_here; (with_reducible show wpAny _ _ (truthy (Value.ref _)) _ _ _); k_dflt (first | (refine' truthy_known true (by k_asm) (by k_mem) (by (first | assumption | exact Nat.le_of_ble_eq_true rfl | (simp only [Array.size_push]; omega))) (by (first | rfl | (simp; done))) ?_; k_whole) | (refine' truthy_known false (by k_asm) (by k_mem) (by (first | assumption | exact Nat.le_of_ble_eq_true rfl)) (by rfl) ?_; k_whole)); intro k9); (try (revert k9; intros)))
  k_with "ite" => (k_closed; k_dflt (first | refine ite_pos (by decide +kernel) ?_ | refine ite_neg (by decide +kernel) ?_))
  k_with "mine use" => (refine wpAny_call ?_; (refine' use0 (d := 390) (u := 900) ?B ?F ?X ?T ?hA ?hf ?hk ?hh ?hd ?hu ?_; (case B => k_asm); (case F => k_asm); (case X => k_asm); (case T => k_asm); (case hA => exact rfl); (case hf => exact rfl); (case hk => exact rfl); (case hh => exact rfl); (case hd => exact Nat.le_of_ble_eq_true rfl); (case hu => exact Nat.le_of_ble_eq_true rfl)))
  k_with "call ref" => ((k_here; (with_reducible show wpAny _ _ (call (Value.ref 76) [Value.str _ _]) _ _ _); k_dflt (walk_at "mine use"; intro B9 X9 T9; (refine' escape_spec _ _ _ _ _ (by first | assumption | exact Or.inl rfl | exact Or.inr rfl) _ _ _ _ _ B9 X9 T9 ?_); clear B9 X9 T9; intro t9 h9 tk9 x9; (have F9 := Fr.keeps (by k_asm) x9); (have N9 := News.grown (by k_asm) x9); clear x9; (try dsimp only); (try k_sweep))); (try (revert t9 h9 tk9 F9 N9; intros)))
  trivial
theorem translate_spec : ∀ (w : World) (mean : ExcName → Option Value) (mg mb : Str → Option Value) (c0 c1 c2 : Nat) (tx t2 : Tok)
    (fr : List Env) (base : Heap) (s : Shared) (R : Result → Shared → Prop)
    (hcs : ∀ c ∈ [c0, c1, c2], c = 97 ∨ c = 98 ∨ c = 63 ∨ c = 42)
    (B : Below (AA 380 800 fr) base fr s.heap) (X : (Mine.heap39 w.params).In s.heap) (T : Top topProg looseG mean mg mb s.heap)
    (hret : ∀ (a : Addr) (h' : Heap) (tk' : Nat) (vs : Array Value) (n : Nat), (∀ b o, s.heap.get? b = some o → h'.get? b = some o) → s.heap.get? a = none → h'.get? a = some (lobj vs n) → PAre vs.toList (trans [c0, c1, c2]) → vs.size ≤ 8 →
      R (.ok (.ret (.ref a))) { s with heap := h', toks := tk' }),
    codeAny (model PySem.Challenge.rw_in0045_01.row.prog w) (AA 380 800 fr) (.call (.ref 83) ⟨[.str ⟨#[c0, c1, c2]⟩ tx, .none, .str (Str.ofString "any") t2], []⟩) R s := by
  k_fill
  intro w mean mg mb c0 c1 c2 tx t2 fr base s R hcs B X T hret
  refine' enterS (binds := [(Str.ofString "pat", .str ⟨#[c0, c1, c2]⟩ tx), (Str.ofString "STAR", .none), (Str.ofString "QUESTION_MARK", .str (Str.ofString "any") t2)]) ?k3 ?k5 ?k6 ?k7 ?k8 ?k9 ?kB ?_ ?c2 ?c3 ?c4 ?c5
  walk_at "mine sides0"
  intro L' h' F' N'
  k_steps
  refine Stop.out ?_
  refine' tr_loop [c0, c1, c2] rfl ?pass ?F ?N ?h1 ?h2 ?turn ?last
  (case F => assumption)
  (case N => assumption)
  (case h1 => exact List.Mem.tail _ (List.Mem.head _))
  (case h2 => exact List.Mem.tail _ (List.Mem.tail _ (List.Mem.head _)))
  (case pass => passes_own)
  · intro i c h tk its n uc ti hi hc hp hs F1 N1
    have hx : (⟨#[c0, c1, c2]⟩ : Str).cps[i]? = some c := by simpa using hc
    have hcc : c = 97 ∨ c = 98 ∨ c = 63 ∨ c = 42 := hcs c (List.mem_of_getElem? hc)
    rcases hcc with rfl | rfl | rfl | rfl
    · repeat' (first | walk1 | (dsimp only; walk1))
      all_goals (refine' TrSt.intro ?uc1 ?ti1 ?F1 ?N1 ?a1 ?b1 ?m1 ?p1; (case F1 => assumption); (case N1 => assumption); (case a1 => k_mem); (case b1 => k_mem); (case m1 => exact mm_turn); rw [trans_take hc, Array.toList_push]; exact hp.snoc ⟨_, rfl⟩)
    · repeat' (first | walk1 | (dsimp only; walk1))
      all_goals (refine' TrSt.intro ?uc2 ?ti2 ?F2 ?N2 ?a2 ?b2 ?m2 ?p2; (case F2 => assumption); (case N2 => assumption); (case a2 => k_mem); (case b2 => k_mem); (case m2 => exact mm_turn); rw [trans_take hc, Array.toList_push]; exact hp.snoc ⟨_, rfl⟩)
    · repeat' (first | walk1 | (dsimp only; walk1))
      all_goals (refine' TrSt.intro ?uc3 ?ti3 ?F3 ?N3 ?a3 ?b3 ?m3 ?p3; (case F3 => assumption); (case N3 => assumption); (case a3 => k_mem); (case b3 => k_mem); (case m3 => exact mm_turn); rw [trans_take hc, Array.toList_push]; exact hp.snoc ⟨_, rfl⟩)
    · rcases its_cases hp hs with ⟨rfl, hl⟩ | ⟨ys, rfl, hy, hl⟩ | ⟨ys, x, t, rfl, hy, hl⟩
      · repeat' (first | walk1 | (dsimp only; walk1))
        all_goals (refine' TrSt.intro ?uc4 ?ti4 ?F4 ?N4 ?a4 ?b4 ?m4 ?p4; (case F4 => assumption); (case N4 => assumption); (case a4 => k_mem); (case b4 => k_mem); (case m4 => exact mm_turn); rw [trans_take hc, Array.toList_push, addSign, if_pos rfl, if_neg hl]; exact hp.snoc rfl)
      · repeat' (first | walk1 | (dsimp only; walk1))
        all_goals (refine' TrSt.intro ?uc5 ?ti5 ?F5 ?N5 ?a5 ?b5 ?m5 ?p5; (case F5 => assumption); (case N5 => assumption); (case a5 => k_mem); (case b5 => k_mem); (case m5 => exact mm_turn); rw [trans_take hc, addSign, if_pos rfl, if_pos hl]; exact hp)
      · repeat' (first | walk1 | (dsimp only; walk1))
        all_goals (refine' TrSt.intro ?uc6 ?ti6 ?F6 ?N6 ?a6 ?b6 ?m6 ?p6; (case F6 => assumption); (case N6 => assumption); (case a6 => k_mem); (case b6 => k_mem); (case m6 => exact mm_turn); rw [trans_take hc, Array.toList_push, addSign, if_pos rfl, if_neg hl]; exact hp.snoc rfl)
  · intro h tk its n uc ti hp hs F1 N1
    repeat' (first | walk1 | (dsimp only; walk1))
    all_goals exact hret _ _ _ _ _ F1.keep (N1.fresh (.tail _ (.head _))) (N1.get (.tail _ (.head _))) hp hs
end
section
-- text C4
open PySem PySem.W PyProof.Rows PySem.Calls
set_option maxHeartbeats 8000000
theorem rows_C4 : True := by
  k_with_none
  k_with "mine sides0" => ((case k3 => k_asm); (case k5 => k_asm); (case k6 => k_is); (case k7 => k_is); (case k8 => exact Nat.le_of_ble_eq_true rfl); (case k9 => exact BindsTo.of_eq rfl); (case c5 => decide); (case kB => exact locs rfl); (case c2 => exact rfl); (case c3 => exact rfl); (case c4 => exact rfl))
  k_with "mine enter0" => ((refine' enterS (by k_asm) (by k_asm) (by k_is) (by k_is) (by exact Nat.le_of_ble_eq_true rfl) (by exact BindsTo.of_eq rfl) (by exact locs rfl) ?_ (by exact rfl) (by exact rfl) (by exact rfl) (by decide); k_whole; intro L' h' F' N'); (try (revert L' h' F' N'; intros)))
  k_with "mine enterC" => ((refine' enterSC (by k_asm) (by k_asm) (by k_is) (by k_is) (by exact Nat.le_of_ble_eq_true rfl) (by exact BindsTo.of_eq rfl) (by exact rfl) (by decide +kernel) ?_ (by exact rfl) (by exact rfl) (by exact rfl); k_whole; intro L' h' tk' cells' F' N' Y'; k_cells Y'; (try simp only [List.cons_append, List.nil_append, List.append_nil] at N')); (try (revert L' h' tk' cells' F' N' Y'; intros)))
  k_with "eval ListComp" => (k_here; lcf_look; k_dflt (refine LCg.ListComp_U (F₀ := by k_asm) (by with_unfolding_all rfl) (by decide) (by rfl) (by decide) (by rfl) ?_); k_dflt lcg_toSrc)
  k_with "CompSrc" => (k_here; k_dflt (first | (refine LCg.CompSrc.ledger (by rfl) (by k_asm) (by k_asm) (by k_mem) (by first | size_fits | exact Nat.le_of_ble_eq_true rfl) ?_; intro g'; lcg_lit) | (refine LCg.CompSrc.base (by rfl) (by k_asm) (by k_asm) (by assumption) (by first | size_fits | exact Nat.le_of_ble_eq_true rfl) ?_; intro g'; lcg_lit) | (refine LCg.CompSrc.range (by rfl) (by k_asm) (by k_asm) (by assumption) (by first | decide | rfl) (by first | rfl | decide) (by first | size_fits | exact Nat.le_of_ble_eq_true rfl) ?_; intro g'; lcg_lit)))
  k_with "getMethod str" => ((with_reducible show wpAny _ _ (getMethod (Value.str _ _) (PySem.Str.ofString "translate") _) _ _ _); refine GM.of _ (typeIs_str _ _ _) F.slot_str_translate F.type_str_translate GM.noRef ?_)
  k_with "call builtin:str.translate" => ((k_here; k_dflt (refine' translate_K (by k_asm) (by k_asm) (by k_asm) (by k_is) (by decide +kernel) (by assumption) (by rfl) (by rfl) (by rename _ ∨ _ => hn9; rcases hn9 with e | e <;> (rw [e]; decide +kernel)) ?_; k_whole); intro t9 h9 tk9 F9 N9); (try (revert t9 h9 tk9 F9 N9; intros)))
  k_with "getAttr ref" => ((k_here; (with_reducible show wpAny _ _ (getAttr (Value.ref _) (PySem.Str.ofString "append") _) _ _ _); k_dflt (refine' getAttr_append_K (by k_asm) (by k_asm) (by k_mem) ?_; k_whole); intro u' h' tk' F' N' l1; (try k_lt l1); (try k_sweep)); (try (revert u' h' tk' F' N' l1; intros)))
  k_with "callWith ref" => (k_here; (with_reducible show wpAny _ _ (callWith _ (Value.ref _) _ (backTo _ (starEach (_ :: _) _)) []) _ _ _); k_dflt (refine' callWith_bnd_K (by k_asm) (by k_mem) ?_; k_whole))
  k_with "And" => ((with_reducible show BndAt _ _ _ _ ∧ _); k_dflt (refine ⟨bndAt_of (by k_asm) (by k_mem), ?_⟩); (try dsimp only [List.nil_append, List.cons_append]))
  k_with "call ref" => ((k_here; k_dflt (refine' call_bnd_append_K (by k_asm) (by k_asm) (by k_mem) (by k_updF) (by first | assumption | size_fits | exact Nat.le_of_ble_eq_true rfl) ?_; k_whole); intro h' F' N'; (try dsimp only at N'); (try k_sweep)); (try (revert h' F' N'; intros)))
  k_with "exec While Compare cons nil" => (k_here; (with_reducible show wpAny _ _ (exec (Stmt.While _ _ _ _) _) _ _ _); refine Stop.go ?_)
  k_with "call builtin:len" => ((k_here; (with_reducible show wpAny _ _ (call (Value.builtin "len") [Value.str (Str.mk _) _]) _ _ _); (first | refine len_known 3 rfl rfl ?_ | refine len_known 2 rfl rfl ?_ | refine len_known 1 rfl rfl ?_ | refine len_known 0 rfl rfl ?_); intro t9 k9); (try (revert t9 k9; intros)))
  k_with "subscriptTail Name Name str int" => ((k_here; (with_reducible show wpAny _ _ (subscriptTail _ _ (Value.str _ _) (Value.int _ _)) _ _ _); k_dflt (refine' item_at (by assumption) (by omega) ?_; k_whole); intro t9 k9); (try (revert t9 k9; intros)))
  k_with "subscriptTail" => (k_here; (with_reducible show wpAny _ _ (subscriptTail _ _ (Value.ref _) (Value.int (-1) _)) _ _ _); k_dflt (refine' item_last (by k_asm) (by k_mem) (by omega) ?_; k_whole))
  k_with "truthy ref" => ((k_here; (with_reducible show wpAny _ _ (truthy (Value.ref _)) _ _ _); k_dflt (first | (refine' truthy_known true (by k_asm) (by k_mem) (by (first | assumption | exact Nat.le_of_ble_eq_true rfl | (simp only [Array.size_push]; omega))) (by (first | rfl | (simp; done))) ?_; k_whole) | (refine' truthy_known false (by k_asm) (by k_mem) (by (first | assumption | exact Nat.le_of_ble_eq_true rfl)) (by rfl) ?_; k_whole)); intro k9); (try (revert k9; intros)))
  k_with "ite" => (k_closed; k_dflt (first | refine ite_pos (by decide +kernel) ?_ | refine ite_neg (by decide +kernel) ?_))
  k_with "exec For Name Call cons nil" => (k_here; (with_reducible show wpAny _ _ (exec (Stmt.For _ _ _ _ _) _) _ _ _); refine Stop.go ?_)
  k_with "pyIter ref" => (k_here; (with_reducible show wpAny _ _ (pyIter _) (fun _ _ => LoopAtV _ _ _ _ _ _ _ _ _ _ _) _ _); refine Stop.go ?_)
  k_with "call builtin:len" => ((k_here; (with_reducible show wpAny _ _ (call (Value.builtin "len") [Value.ref _]) _ _ _); k_dflt (refine' len_list_is (by first | assumption | exact Fr.lst (by assumption) (by assumption)) (by assumption) (by omega) ?_; k_whole); intro t9 k9); (try (revert t9 k9; intros)))
  k_with "compareOp In int ref" => (k_here; k_dflt (refine' in_list_ints (by is_list) (by assumption) ?_; k_whole))
  k_with "subscriptTail Name BinOp ref int" => (k_here; k_dflt (refine' item_pred (by is_list) (by assumption) (by omega) ?_; k_whole))
  k_with "binaryOp Add ref ref" => ((k_here; k_dflt (refine' add_ints_K (by k_asm) (by k_asm) (by k_mem) (by k_mem) (by assumption) (by omega) ?_; k_whole); intro D' h' ws' F' N' hI'); (try (revert D' h' ws' F' N' hI'; intros)))
  trivial
theorem close_spec : ∀ (w : World) (mean : ExcName → Option Value) (mg mb : Str → Option Value) (lp lq : Addr) (vs qs : List Value) (ps : List Part) (zs : List Int)
    (fr : List Env) (base : Heap) (s : Shared) (R : Result → Shared → Prop)
    (hlp : s.heap.IsList lp vs.toArray) (hvs : PAre vs ps) (hps : ps.length ≤ 8) (hlq : s.heap.IsList lq qs.toArray) (hzs : IntsAre qs zs)
    (B : Below (AA 380 800 fr) base fr s.heap) (X : (Mine.heap39 w.params).In s.heap) (T : Top topProg looseG mean mg mb s.heap)
    (hret : ∀ (a : Addr) (h' : Heap) (tk' : Nat) (ws : List Value) (n : Nat), (∀ b o, s.heap.get? b = some o → h'.get? b = some o) → s.heap.get? a = none → h'.get? a = some (lobj ws.toArray n) → IntsAre ws (closeF ps zs (ps.length + 1)) →
      R (.ok (.ret (.ref a))) { s with heap := h', toks := tk' }),
    codeAny (model PySem.Challenge.rw_in0045_01.row.prog w) (AA 380 800 fr) (.call (.ref 111) ⟨[.ref lp, .ref lq], []⟩) R s := by
  k_fill
  intro w mean mg mb lp lq vs qs ps zs fr base s R hlp hvs hps hlq hzs B X T hret
  have hsz : vs.toArray.size = ps.length := by rw [List.size_toArray]; exact hvs.length
  refine' enterS (binds := [(Str.ofString "parts", .ref lp), (Str.ofString "places", .ref lq)]) ?k3 ?k5 ?k6 ?k7 ?k8 ?k9 ?kB ?_ ?c2 ?c3 ?c4 ?c5
  walk_at "mine sides0"
  intro L' h' F' N'
  repeat' (first | walk1 | (dsimp only; walk1))
  refine Stop.out ?_
  refine For_invVF (by assumption) (by rfl) (by rfl) ?_ (by intro _; rfl) (by passes_own)
  repeat' (first | walk1 | (dsimp only; walk1))
  refine Stop.out ?_
  refine' iter_rangeJ (n := ps.length + 1) (fun i m' nw => ∃ o ws n uk, m' = mo (fun y => List.lookup y [(Str.ofString "parts", Value.ref lp), (Str.ofString "places", Value.ref lq)].reverse) o uk ∧ nw = [(o, lobj (List.toArray ws) n)] ∧ IntsAre ws (closeF ps zs i)) rfl ?hr ?hb ?hn ?F ?N ?hJ ?turn ?done
  (case hr => assumption)
  (case hb => rfl)
  (case hn => omega)
  (case F => assumption)
  (case hJ => exact ⟨_, [], 0, _, mo_start, rfl, .nil⟩)
  (case N => exact news_one (by assumption) (by k_mem))
  (case done =>
    rintro m₁ nw h tk ⟨o, ws, n, uk, rfl, rfl, hws⟩ F1 N1
    repeat' (first | walk1 | (dsimp only; walk1))
    all_goals exact hret _ _ _ _ _ F1.keep (N1.fresh (.head _)) (N1.get (.head _)) hws)
  (case turn =>
    rintro i t I oI m₁ nw h tk hcI hi ⟨o, ws, n, uk, rfl, rfl, hws⟩ ho F1 N1
    have hlen := closeF_len ps zs i
    cases i with
    | zero =>
      repeat' (first | walk1 | (dsimp only; walk1))
      · (refine' TurnJ.list hcI ?F1 ?N1 ?a1 ?b1 ⟨?o1, ?ws1, ?n1, ?uk1, ?m1, rfl, ?i1⟩; (case F1 => assumption); (case m1 => first | exact mo_out | exact mo_k); (case N1 => assumption); (case a1 => k_mem); (case b1 => k_mem); rw [closeF_succ]; first | (rw [cs_yes1 (by assumption)]; assumption) | (rw [cs_yes2 hp (by assumption)]; assumption) | (rw [cs_no0 (by assumption)]; assumption) | (rw [cs_no2 (by assumption) (by assumption)]; assumption) | (rw [cs_no1 (by assumption) hp (by nofun)]; assumption))
      · (refine' TurnJ.list hcI ?F2 ?N2 ?a2 ?b2 ⟨?o2, ?ws2, ?n2, ?uk2, ?m2, rfl, ?i2⟩; (case F2 => assumption); (case m2 => first | exact mo_out | exact mo_k); (case N2 => assumption); (case a2 => k_mem); (case b2 => k_mem); rw [closeF_succ]; first | (rw [cs_yes1 (by assumption)]; assumption) | (rw [cs_yes2 hp (by assumption)]; assumption) | (rw [cs_no0 (by assumption)]; assumption) | (rw [cs_no2 (by assumption) (by assumption)]; assumption) | (rw [cs_no1 (by assumption) hp (by nofun)]; assumption))
    | succ j =>
      obtain ⟨v, p, hv, hp, hpv⟩ := hvs.get (j := j) (by omega)
      cases p with
      | star =>
        cases hpv
        repeat' (first | walk1 | (dsimp only; walk1))
        · (refine' TurnJ.list hcI ?F3 ?N3 ?a3 ?b3 ⟨?o3, ?ws3, ?n3, ?uk3, ?m3, rfl, ?i3⟩; (case F3 => assumption); (case m3 => first | exact mo_out | exact mo_k); (case N3 => assumption); (case a3 => k_mem); (case b3 => k_mem); rw [closeF_succ]; first | (rw [cs_yes1 (by assumption)]; assumption) | (rw [cs_yes2 hp (by assumption)]; assumption) | (rw [cs_no0 (by assumption)]; assumption) | (rw [cs_no2 (by assumption) (by assumption)]; assumption) | (rw [cs_no1 (by assumption) hp (by nofun)]; assumption))
        · (refine' TurnJ.list hcI ?F4 ?N4 ?a4 ?b4 ⟨?o4, ?ws4, ?n4, ?uk4, ?m4, rfl, ?i4⟩; (case F4 => assumption); (case m4 => first | exact mo_out | exact mo_k); (case N4 => assumption); (case a4 => k_mem); (case b4 => k_mem); rw [closeF_succ]; first | (rw [cs_yes1 (by assumption)]; assumption) | (rw [cs_yes2 hp (by assumption)]; assumption) | (rw [cs_no0 (by assumption)]; assumption) | (rw [cs_no2 (by assumption) (by assumption)]; assumption) | (rw [cs_no1 (by assumption) hp (by nofun)]; assumption))
        · (refine' TurnJ.list hcI ?F5 ?N5 ?a5 ?b5 ⟨?o5, ?ws5, ?n5, ?uk5, ?m5, rfl, ?i5⟩; (case F5 => assumption); (case m5 => first | exact mo_out | exact mo_k); (case N5 => assumption); (case a5 => k_mem); (case b5 => k_mem); rw [closeF_succ]; first | (rw [cs_yes1 (by assumption)]; assumption) | (rw [cs_yes2 hp (by assumption)]; assumption) | (rw [cs_no0 (by assumption)]; assumption) | (rw [cs_no2 (by assumption) (by assumption)]; assumption) | (rw [cs_no1 (by assumption) hp (by nofun)]; assumption))
      | any =>
        obtain ⟨tv, rfl⟩ := hpv
        repeat' (first | walk1 | (dsimp only; walk1))
        · (refine' TurnJ.list hcI ?F6 ?N6 ?a6 ?b6 ⟨?o6, ?ws6, ?n6, ?uk6, ?m6, rfl, ?i6⟩; (case F6 => assumption); (case m6 => first | exact mo_out | exact mo_k); (case N6 => assumption); (case a6 => k_mem); (case b6 => k_mem); rw [closeF_succ]; first | (rw [cs_yes1 (by assumption)]; assumption) | (rw [cs_yes2 hp (by assumption)]; assumption) | (rw [cs_no0 (by assumption)]; assumption) | (rw [cs_no2 (by assumption) (by assumption)]; assumption) | (rw [cs_no1 (by assumption) hp (by nofun)]; assumption))
        · (refine' TurnJ.list hcI ?F7 ?N7 ?a7 ?b7 ⟨?o7, ?ws7, ?n7, ?uk7, ?m7, rfl, ?i7⟩; (case F7 => assumption); (case m7 => first | exact mo_out | exact mo_k); (case N7 => assumption); (case a7 => k_mem); (case b7 => k_mem); rw [closeF_succ]; first | (rw [cs_yes1 (by assumption)]; assumption) | (rw [cs_yes2 hp (by assumption)]; assumption) | (rw [cs_no0 (by assumption)]; assumption) | (rw [cs_no2 (by assumption) (by assumption)]; assumption) | (rw [cs_no1 (by assumption) hp (by nofun)]; assumption))
      | sign c =>
        obtain ⟨tv, rfl⟩ := hpv
        repeat' (first | walk1 | (dsimp only; walk1))
        · (refine' TurnJ.list hcI ?F8 ?N8 ?a8 ?b8 ⟨?o8, ?ws8, ?n8, ?uk8, ?m8, rfl, ?i8⟩; (case F8 => assumption); (case m8 => first | exact mo_out | exact mo_k); (case N8 => assumption); (case a8 => k_mem); (case b8 => k_mem); rw [closeF_succ]; first | (rw [cs_yes1 (by assumption)]; assumption) | (rw [cs_yes2 hp (by assumption)]; assumption) | (rw [cs_no0 (by assumption)]; assumption) | (rw [cs_no2 (by assumption) (by assumption)]; assumption) | (rw [cs_no1 (by assumption) hp (by nofun)]; assumption))
        · (refine' TurnJ.list hcI ?F9 ?N9 ?a9 ?b9 ⟨?o9, ?ws9, ?n9, ?uk9, ?m9, rfl, ?i9⟩; (case F9 => assumption); (case m9 => first | exact mo_out | exact mo_k); (case N9 => assumption); (case a9 => k_mem); (case b9 => k_mem); rw [closeF_succ]; first | (rw [cs_yes1 (by assumption)]; assumption) | (rw [cs_yes2 hp (by assumption)]; assumption) | (rw [cs_no0 (by assumption)]; assumption) | (rw [cs_no2 (by assumption) (by assumption)]; assumption) | (rw [cs_no1 (by assumption) hp (by nofun)]; assumption)))
end
section
-- text C5
open PySem PySem.W PyProof.Rows PySem.Calls
set_option maxHeartbeats 8000000
theorem rows_C5 : True := by
  k_with_none
  k_with "mine sides0" => ((case k3 => k_asm); (case k5 => k_asm); (case k6 => k_is); (case k7 => k_is); (case k8 => exact Nat.le_of_ble_eq_true rfl); (case k9 => exact BindsTo.of_eq rfl); (case c5 => decide); (case kB => exact locs rfl); (case c2 => exact rfl); (case c3 => exact rfl); (case c4 => exact rfl))
  k_with "mine sidesC" => ((case k3 => k_asm); (case k5 => k_asm); (case k6 => k_is); (case k7 => k_is); (case k8 => exact Nat.le_of_ble_eq_true rfl); (case k9 => exact BindsTo.of_eq rfl); (case kB => exact rfl); (case kD => decide +kernel); (case c2 => exact rfl); (case c3 => exact rfl); (case c4 => exact rfl))
  k_with "mine enter0" => ((refine' enterS (by k_asm) (by k_asm) (by k_is) (by k_is) (by exact Nat.le_of_ble_eq_true rfl) (by exact BindsTo.of_eq rfl) (by exact locs rfl) ?_ (by exact rfl) (by exact rfl) (by exact rfl) (by decide); k_whole; intro L' h' F' N'); (try (revert L' h' F' N'; intros)))
  k_with "mine enterC" => ((refine' enterSC (by k_asm) (by k_asm) (by k_is) (by k_is) (by exact Nat.le_of_ble_eq_true rfl) (by exact BindsTo.of_eq rfl) (by exact rfl) (by decide +kernel) ?_ (by exact rfl) (by exact rfl) (by exact rfl); k_whole; intro L' h' tk' cells' F' N' Y'; k_cells Y'; (try simp only [List.cons_append, List.nil_append, List.append_nil] at N')); (try (revert L' h' tk' cells' F' N' Y'; intros)))
  k_with "eval ListComp" => (k_here; lcf_look; k_dflt (refine LCg.ListComp_U (F₀ := by k_asm) (by with_unfolding_all rfl) (by decide) (by rfl) (by decide) (by rfl) ?_); k_dflt lcg_toSrc)
  k_with "CompSrc" => (k_here; k_dflt (first | (refine LCg.CompSrc.ledger (by rfl) (by k_asm) (by k_asm) (by k_mem) (by first | size_fits | exact Nat.le_of_ble_eq_true rfl) ?_; intro g'; lcg_lit) | (refine LCg.CompSrc.base (by rfl) (by k_asm) (by k_asm) (by assumption) (by first | size_fits | exact Nat.le_of_ble_eq_true rfl) ?_; intro g'; lcg_lit) | (refine LCg.CompSrc.range (by rfl) (by k_asm) (by k_asm) (by assumption) (by first | decide | rfl) (by first | rfl | decide) (by first | size_fits | exact Nat.le_of_ble_eq_true rfl) ?_; intro g'; lcg_lit)))
  k_with "getMethod str" => ((with_reducible show wpAny _ _ (getMethod (Value.str _ _) (PySem.Str.ofString "translate") _) _ _ _); refine GM.of _ (typeIs_str _ _ _) F.slot_str_translate F.type_str_translate GM.noRef ?_)
  k_with "call builtin:str.translate" => ((k_here; k_dflt (refine' translate_K (by k_asm) (by k_asm) (by k_asm) (by k_is) (by decide +kernel) (by assumption) (by rfl) (by rfl) (by rename _ ∨ _ => hn9; rcases hn9 with e | e <;> (rw [e]; decide +kernel)) ?_; k_whole); intro t9 h9 tk9 F9 N9); (try (revert t9 h9 tk9 F9 N9; intros)))
  k_with "getAttr ref" => ((k_here; (with_reducible show wpAny _ _ (getAttr (Value.ref _) (PySem.Str.ofString "append") _) _ _ _); k_dflt (refine' getAttr_append_K (by k_asm) (by k_asm) (by k_mem) ?_; k_whole); intro u' h' tk' F' N' l1; (try k_lt l1); (try k_sweep)); (try (revert u' h' tk' F' N' l1; intros)))
  k_with "callWith ref" => (k_here; (with_reducible show wpAny _ _ (callWith _ (Value.ref _) _ (backTo _ (starEach (_ :: _) _)) []) _ _ _); k_dflt (refine' callWith_bnd_K (by k_asm) (by k_mem) ?_; k_whole))
  k_with "And" => ((with_reducible show BndAt _ _ _ _ ∧ _); k_dflt (refine ⟨bndAt_of (by k_asm) (by k_mem), ?_⟩); (try dsimp only [List.nil_append, List.cons_append]))
  k_with "call ref" => ((k_here; k_dflt (refine' call_bnd_append_K (by k_asm) (by k_asm) (by k_mem) (by k_updF) (by first | assumption | size_fits | exact Nat.le_of_ble_eq_true rfl) ?_; k_whole); intro h' F' N'; (try dsimp only at N'); (try k_sweep)); (try (revert h' F' N'; intros)))
  k_with "exec While Compare cons nil" => (k_here; (with_reducible show wpAny _ _ (exec (Stmt.While _ _ _ _) _) _ _ _); refine Stop.go ?_)
  k_with "call builtin:len" => ((k_here; (with_reducible show wpAny _ _ (call (Value.builtin "len") [Value.str (Str.mk _) _]) _ _ _); (first | refine len_known 3 rfl rfl ?_ | refine len_known 2 rfl rfl ?_ | refine len_known 1 rfl rfl ?_ | refine len_known 0 rfl rfl ?_); intro t9 k9); (try (revert t9 k9; intros)))
  k_with "subscriptTail Name Name str int" => ((k_here; (with_reducible show wpAny _ _ (subscriptTail _ _ (Value.str _ _) (Value.int _ _)) _ _ _); k_dflt (refine' item_at (by assumption) (by omega) ?_; k_whole); intro t9 k9); (try (revert t9 k9; intros)))
  k_with "subscriptTail" => (k_here; (with_reducible show wpAny _ _ (subscriptTail _ _ (Value.ref _) (Value.int (-1) _)) _ _ _); k_dflt (refine' item_last (by k_asm) (by k_mem) (by omega) ?_; k_whole))
  k_with "truthy ref" => ((k_here; (with_reducible show wpAny _ _ (truthy (Value.ref _)) _ _ _); k_dflt (first | (refine' truthy_known true (by k_asm) (by k_mem) (by (first | assumption | exact Nat.le_of_ble_eq_true rfl | (simp only [Array.size_push]; omega))) (by (first | rfl | (simp; done))) ?_; k_whole) | (refine' truthy_known false (by k_asm) (by k_mem) (by (first | assumption | exact Nat.le_of_ble_eq_true rfl)) (by rfl) ?_; k_whole)); intro k9); (try (revert k9; intros)))
  k_with "ite" => (k_closed; k_dflt (first | refine ite_pos (by decide +kernel) ?_ | refine ite_neg (by decide +kernel) ?_))
  k_with "exec For Name Call cons nil" => (k_here; (with_reducible show wpAny _ _ (exec (Stmt.For _ _ _ _ _) _) _ _ _); refine Stop.go ?_)
  k_with "pyIter ref" => (k_here; (with_reducible show wpAny _ _ (pyIter _) (fun _ _ => LoopAtV _ _ _ _ _ _ _ _ _ _ _) _ _); refine Stop.go ?_)
  k_with "call builtin:len" => ((k_here; (with_reducible show wpAny _ _ (call (Value.builtin "len") [Value.ref _]) _ _ _); k_dflt (refine' len_list_is (by first | assumption | exact Fr.lst (by assumption) (by assumption)) (by assumption) (by omega) ?_; k_whole); intro t9 k9); (try (revert t9 k9; intros)))
  k_with "compareOp In int ref" => (k_here; k_dflt (refine' in_list_ints (by is_list) (by assumption) ?_; k_whole))
  k_with "subscriptTail Name BinOp ref int" => (k_here; k_dflt (refine' item_pred (by is_list) (by assumption) (by omega) ?_; k_whole))
  k_with "binaryOp Add ref ref" => ((k_here; k_dflt (refine' add_ints_K (by k_asm) (by k_asm) (by k_mem) (by k_mem) (by assumption) (by omega) ?_; k_whole); intro D' h' ws' F' N' hI'); (try (revert D' h' ws' F' N' hI'; intros)))
  k_with "exec Assign cons ListComp" => (k_here; lct_look; k_dflt (refine LCt.Assign_ListComp_T (F₀ := by k_asm) (by rfl) (by with_unfolding_all rfl) (by with_unfolding_all rfl) (by decide) (by rfl) (by decide) (by rfl) (by rfl) (by rfl) ?_); k_dflt lct_toSrc)
  k_with "CompSrcT" => (k_here; refine Stop.go ?_)
  k_with "CompEnd" => (k_here; refine Stop.go ?_)
  k_with "subscriptTail Name Name ref int" => (k_here; k_dflt (refine' item_nat_list (by is_list) (by assumption) (by omega) ?_; k_whole))
  k_with "compareOp In none ref" => (k_here; k_dflt (refine' in_disp (by is_list) (by assumption) ?_; k_whole))
  k_with "compareOp In str ref" => (k_here; k_dflt (refine' in_disp (by is_list) (by assumption) ?_; k_whole))
  k_with "mine use80" => (refine wpAny_call ?_; (refine' use0 (d := 380) (u := 800) ?B ?F ?X ?T ?hA ?hf ?hk ?hh ?hd ?hu ?_; (case B => k_asm); (case F => k_asm); (case X => k_asm); (case T => k_asm); (case hA => exact rfl); (case hf => exact rfl); (case hk => exact rfl); (case hh => exact rfl); (case hd => exact Nat.le_of_ble_eq_true rfl); (case hu => exact Nat.le_of_ble_eq_true rfl)))
  k_with "call ref" => ((k_here; (with_reducible show wpAny _ _ (call (Value.ref 111) [Value.ref _, Value.ref _]) _ _ _); k_dflt (walk_at "mine use80"; intro B9 X9 T9; (refine' close_spec _ _ _ _ _ _ _ _ _ _ _ _ _ _ (by is_list) (by assumption) (by assumption) (by is_list) (by assumption) B9 X9 T9 ?_); clear B9 X9 T9; intro a9 h9 tk9 ws9 n9 x9 f9 g9 i9; (have F9 := Fr.keeps (by k_asm) x9); (have N9 := news_cons (by k_asm) (by k_asm) x9 f9 g9); clear x9 f9 g9; (try dsimp only); (try k_sweep))); (try (revert a9 h9 tk9 ws9 n9 i9 F9 N9; intros)))
  trivial
theorem step_spec : ∀ (w : World) (mean : ExcName → Option Value) (mg mb : Str → Option Value) (lp lq : Addr) (vs qs : List Value) (ps : List Part) (zs : List Int) (c : Nat) (tc : Tok)
    (fr : List Env) (base : Heap) (s : Shared) (R : Result → Shared → Prop)
    (hlp : s.heap.IsList lp vs.toArray) (hvs : PAre vs ps) (hps : ps.length ≤ 8) (hlq : s.heap.IsList lq qs.toArray) (hzs : IntsAre qs zs) (hzl : zs.length ≤ 20) (hz0 : ∀ z ∈ zs, 0 ≤ z)
    (B : Below (AA 370 700 fr) base fr s.heap) (X : (Mine.heap39 w.params).In s.heap) (T : Top topProg looseG mean mg mb s.heap)
    (hret : ∀ (a : Addr) (h' : Heap) (tk' : Nat) (ws : List Value) (n : Nat), (∀ b o, s.heap.get? b = some o → h'.get? b = some o) → s.heap.get? a = none → h'.get? a = some (lobj ws.toArray n) → IntsAre ws (closeF ps (stepF ps c zs) (ps.length + 1)) →
      R (.ok (.ret (.ref a))) { s with heap := h', toks := tk' }),
    codeAny (model PySem.Challenge.rw_in0045_01.row.prog w) (AA 370 700 fr) (.call (.ref 116) ⟨[.ref lp, .ref lq, .str ⟨#[c]⟩ tc], []⟩) R s := by
  k_fill
  intro w mean mg mb lp lq vs qs ps zs c tc fr base s R hlp hvs hps hlq hzs hzl hz0 B X T hret
  have hsz : vs.toArray.size = ps.length := by rw [List.size_toArray]; exact hvs.length
  refine' enterSC (binds := [(Str.ofString "parts", .ref lp), (Str.ofString "places", .ref lq), (Str.ofString "sign", .str ⟨#[c]⟩ tc)]) ?k3 ?k5 ?k6 ?k7 ?k8 ?k9 ?kB ?kD ?_ ?c2 ?c3 ?c4
  walk_at "mine sidesC"
  intro L' h' tk' cells' F' N' Y'
  k_cells Y'
  (try simp only [List.cons_append, List.nil_append, List.append_nil] at N')
  repeat' (first | walk1 | (dsimp only; walk1))
  refine Stop.out ?_
  refine' LCt.CompSrcT.base rfl ?F0 ?N0 ?l0 ?z0 ?_
  (case F0 => assumption)
  (case N0 => assumption)
  (case l0 => exact hlq)
  (case z0 => exact small_line (by rw [List.size_toArray, hzs.length]; omega))
  intro g
  refine restT_fix _ (fun i ys => IntsAre ys (stepF ps c (zs.take i))) .nil ?turn ?fin
  (case fin =>
    intro ys hJ
    rw [show qs.toArray.size = zs.length from by rw [List.size_toArray, hzs.length], List.take_length] at hJ
    repeat' (first | walk1 | (dsimp only; walk1))
    all_goals ((rename News _ _ _ _ => N9); exact hret _ _ _ _ _ (Fr.keep (by assumption)) (N9.fresh (.head _)) (N9.get (.head _)) (by assumption)))
  (case turn =>
    intro i ys v I oI C oC D m₂ h tk E' hi hJ hP hC hx F1 N1 off ne
    have hi' : i < zs.length := by rw [List.size_toArray, hzs.length] at hi; exact hi
    obtain ⟨t, hv⟩ := hzs.get i zs[i] (List.getElem?_eq_getElem hi')
    have hz : zs[i]? = some zs[i] := List.getElem?_eq_getElem hi'
    have hge : 0 ≤ zs[i] := hz0 _ (List.getElem_mem hi')
    generalize zs[i] = z at hv hz hge
    obtain ⟨j, rfl⟩ : ∃ j : Nat, z = (j : Int) := ⟨z.toNat, by omega⟩
    have hvv : v = .int (j : Int) t := by
      have hP' : qs[i]? = some v := by simpa using hP
      rw [hv] at hP'; exact (Option.some.inj hP').symm
    subst hvv
    clear hP
    by_cases hj : j < ps.length
    · obtain ⟨v, p, hvj, hp, hpv⟩ := hvs.get hj
      cases p with
      | star =>
        cases hpv
        have hpv : Part.Is .star Value.none := rfl
        have hf : partFits .star c = true := rfl
        repeat' (first | walk1 | (dsimp only; walk1))
        · (refine Stop.out ?_; refine' LCg.CompEnd.intro ?F1 ?N1 ?nw1 ?sub1 ?off1 ?S1 ⟨rfl, ?J1⟩; (case F1 => assumption); (case N1 => assumption); (case sub1 => lcg_sub); (case off1 => assumption); (case S1 => lcg_src); rw [stepF_take hz, stepOne_star hj hp]; exact hJ.append (.cons _ _ .nil))
      | any =>
        obtain ⟨tv, rfl⟩ := hpv
        have hpv : Part.Is .any (Value.str (Str.ofString "any") tv) := ⟨_, rfl⟩
        have hf : partFits .any c = true := rfl
        repeat' (first | walk1 | (dsimp only; walk1))
        · (refine Stop.out ?_; refine' LCg.CompEnd.intro ?F2 ?N2 ?nw2 ?sub2 ?off2 ?S2 ⟨rfl, ?J2⟩; (case F2 => assumption); (case N2 => assumption); (case sub2 => lcg_sub); (case off2 => assumption); (case S2 => lcg_src); rw [stepF_take hz, stepOne_fit hj hp (by nofun) rfl]; exact hJ.append (.cons _ _ .nil))
      | sign d =>
        obtain ⟨tv, rfl⟩ := hpv
        have hpv : Part.Is (.sign d) (Value.str ⟨#[d]⟩ tv) := ⟨_, rfl⟩
        cases hf : partFits (.sign d) c with
        | true =>
          repeat' (first | walk1 | (dsimp only; walk1))
          · (refine Stop.out ?_; refine' LCg.CompEnd.intro ?F3 ?N3 ?nw3 ?sub3 ?off3 ?S3 ⟨rfl, ?J3⟩; (case F3 => assumption); (case N3 => assumption); (case sub3 => lcg_sub); (case off3 => assumption); (case S3 => lcg_src); rw [stepF_take hz, stepOne_fit hj hp (by nofun) hf]; exact hJ.append (.cons _ _ .nil))
        | false =>
          repeat' (first | walk1 | (dsimp only; walk1))
          · (refine Stop.out ?_; refine' LCg.CompEnd.intro ?F4 ?N4 ?nw4 ?sub4 ?off4 ?S4 ⟨rfl, ?J4⟩; (case F4 => assumption); (case N4 => assumption); (case sub4 => lcg_sub); (case off4 => assumption); (case S4 => lcg_src); rw [stepF_take hz, stepOne_no hj hp hf]; rw [List.append_nil]; exact hJ)
    · repeat' (first | walk1 | (dsimp only; walk1))
      · (refine Stop.out ?_; refine' LCg.CompEnd.intro ?F5 ?N5 ?nw5 ?sub5 ?off5 ?S5 ⟨rfl, ?J5⟩; (case F5 => assumption); (case N5 => assumption); (case sub5 => lcg_sub); (case off5 => assumption); (case S5 => lcg_src); rw [stepF_take hz, stepOne_out hj]; rw [List.append_nil]; exact hJ))
end
section
-- text C6
open PySem PySem.W PyProof.Rows PySem.Calls
set_option maxHeartbeats 8000000
theorem rows_C6 : True := by
  k_with_none
  k_with "mine sides0" => ((case k3 => k_asm); (case k5 => k_asm); (case k6 => k_is); (case k7 => k_is); (case k8 => exact Nat.le_of_ble_eq_true rfl); (case k9 => first | exact BindsTo.of_eq rfl | exact binds_K (by k_in) rfl (by k_is) rfl rfl rfl); (case c5 => decide); (case kB => exact locs rfl); (case c2 => exact rfl); (case c3 => exact rfl); (case c4 => exact rfl))
  k_with "mine sidesC" => ((case k3 => k_asm); (case k5 => k_asm); (case k6 => k_is); (case k7 => k_is); (case k8 => exact Nat.le_of_ble_eq_true rfl); (case k9 => first | exact BindsTo.of_eq rfl | exact binds_K (by k_in) rfl (by k_is) rfl rfl rfl); (case kB => exact rfl); (case kD => decide +kernel); (case c2 => exact rfl); (case c3 => exact rfl); (case c4 => exact rfl))
  k_with "mine enter0" => ((refine' enterS (by k_asm) (by k_asm) (by k_is) (by k_is) (by exact Nat.le_of_ble_eq_true rfl) (by first | exact BindsTo.of_eq rfl | exact binds_K (by k_in) rfl (by k_is) rfl rfl rfl) (by exact locs rfl) ?_ (by exact rfl) (by exact rfl) (by exact rfl) (by decide); k_whole; intro L' h' F' N'); (try (revert L' h' F' N'; intros)))
  k_with "mine enterC" => ((refine' enterSC (by k_asm) (by k_asm) (by k_is) (by k_is) (by exact Nat.le_of_ble_eq_true rfl) (by first | exact BindsTo.of_eq rfl | exact binds_K (by k_in) rfl (by k_is) rfl rfl rfl) (by exact rfl) (by decide +kernel) ?_ (by exact rfl) (by exact rfl) (by exact rfl); k_whole; intro L' h' tk' cells' F' N' Y'; k_cells Y'; (try simp only [List.cons_append, List.nil_append, List.append_nil] at N')); (try (revert L' h' tk' cells' F' N' Y'; intros)))
  k_with "eval ListComp" => (k_here; lcf_look; k_dflt (refine LCg.ListComp_U (F₀ := by k_asm) (by with_unfolding_all rfl) (by decide) (by rfl) (by decide) (by rfl) ?_); k_dflt lcg_toSrc)
  k_with "CompSrc" => (k_here; k_dflt (first | (refine LCg.CompSrc.ledger (by rfl) (by k_asm) (by k_asm) (by k_mem) (by first | size_fits | exact Nat.le_of_ble_eq_true rfl) ?_; intro g'; lcg_lit) | (refine LCg.CompSrc.base (by rfl) (by k_asm) (by k_asm) (by assumption) (by first | size_fits | exact Nat.le_of_ble_eq_true rfl) ?_; intro g'; lcg_lit) | (refine LCg.CompSrc.range (by rfl) (by k_asm) (by k_asm) (by assumption) (by first | decide | rfl) (by first | rfl | decide) (by first | size_fits | exact Nat.le_of_ble_eq_true rfl) ?_; intro g'; lcg_lit)))
  k_with "getMethod str" => ((with_reducible show wpAny _ _ (getMethod (Value.str _ _) (PySem.Str.ofString "translate") _) _ _ _); refine GM.of _ (typeIs_str _ _ _) F.slot_str_translate F.type_str_translate GM.noRef ?_)
  k_with "call builtin:str.translate" => ((k_here; k_dflt (refine' translate_K (by k_asm) (by k_asm) (by k_asm) (by k_is) (by decide +kernel) (by assumption) (by rfl) (by rfl) (by rename _ ∨ _ => hn9; rcases hn9 with e | e <;> (rw [e]; decide +kernel)) ?_; k_whole); intro t9 h9 tk9 F9 N9); (try (revert t9 h9 tk9 F9 N9; intros)))
  k_with "getAttr ref" => ((k_here; (with_reducible show wpAny _ _ (getAttr (Value.ref _) (PySem.Str.ofString "append") _) _ _ _); k_dflt (refine' getAttr_append_K (by k_asm) (by k_asm) (by k_mem) ?_; k_whole); intro u' h' tk' F' N' l1; (try k_lt l1); (try k_sweep)); (try (revert u' h' tk' F' N' l1; intros)))
  k_with "callWith ref" => (k_here; (with_reducible show wpAny _ _ (callWith _ (Value.ref _) _ (backTo _ (starEach (_ :: _) _)) []) _ _ _); k_dflt (refine' callWith_bnd_K (by k_asm) (by k_mem) ?_; k_whole))
  k_with "And" => ((with_reducible show BndAt _ _ _ _ ∧ _); k_dflt (refine ⟨bndAt_of (by k_asm) (by k_mem), ?_⟩); (try dsimp only [List.nil_append, List.cons_append]))
  k_with "call ref" => ((k_here; k_dflt (refine' call_bnd_append_K (by k_asm) (by k_asm) (by k_mem) (by k_updF) (by first | assumption | size_fits | exact Nat.le_of_ble_eq_true rfl) ?_; k_whole); intro h' F' N'; (try dsimp only at N'); (try k_sweep)); (try (revert h' F' N'; intros)))
  k_with "exec While Compare cons nil" => (k_here; (with_reducible show wpAny _ _ (exec (Stmt.While _ _ _ _) _) _ _ _); refine Stop.go ?_)
  k_with "call builtin:len" => ((k_here; (with_reducible show wpAny _ _ (call (Value.builtin "len") [Value.str (Str.mk _) _]) _ _ _); (first | refine len_known 3 rfl rfl ?_ | refine len_known 2 rfl rfl ?_ | refine len_known 1 rfl rfl ?_ | refine len_known 0 rfl rfl ?_); intro t9 k9); (try (revert t9 k9; intros)))
  k_with "subscriptTail Name Name str int" => ((k_here; (with_reducible show wpAny _ _ (subscriptTail _ _ (Value.str _ _) (Value.int _ _)) _ _ _); k_dflt (refine' item_at (by assumption) (by omega) ?_; k_whole); intro t9 k9); (try (revert t9 k9; intros)))
  k_with "subscriptTail" => (k_here; (with_reducible show wpAny _ _ (subscriptTail _ _ (Value.ref _) (Value.int (-1) _)) _ _ _); k_dflt (refine' item_last (by k_asm) (by k_mem) (by omega) ?_; k_whole))
  k_with "truthy ref" => ((k_here; (with_reducible show wpAny _ _ (truthy (Value.ref _)) _ _ _); k_dflt (first | (refine' truthy_known true (by k_asm) (by k_mem) (by (first | assumption | exact Nat.le_of_ble_eq_true rfl | (simp only [Array.size_push]; omega))) (by (first | rfl | (simp; done))) ?_; k_whole) | (refine' truthy_known false (by k_asm) (by k_mem) (by (first | assumption | exact Nat.le_of_ble_eq_true rfl)) (by rfl) ?_; k_whole)); intro k9); (try (revert k9; intros)))
  k_with "ite" => (k_closed; k_dflt (first | refine ite_pos (by decide +kernel) ?_ | refine ite_neg (by decide +kernel) ?_))
  k_with "exec For Name Call cons nil" => (k_here; (with_reducible show wpAny _ _ (exec (Stmt.For _ _ _ _ _) _) _ _ _); refine Stop.go ?_)
  k_with "pyIter ref" => (k_here; (with_reducible show wpAny _ _ (pyIter _) (fun _ _ => LoopAtV _ _ _ _ _ _ _ _ _ _ _) _ _); refine Stop.go ?_)
  k_with "call builtin:len" => ((k_here; (with_reducible show wpAny _ _ (call (Value.builtin "len") [Value.ref _]) _ _ _); k_dflt (refine' len_list_is (by first | assumption | exact Fr.lst (by assumption) (by assumption)) (by assumption) (by omega) ?_; k_whole); intro t9 k9); (try (revert t9 k9; intros)))
  k_with "compareOp In int ref" => (k_here; k_dflt (refine' in_list_ints (by is_list) (by assumption) ?_; k_whole))
  k_with "subscriptTail Name BinOp ref int" => (k_here; k_dflt (refine' item_pred (by is_list) (by assumption) (by omega) ?_; k_whole))
  k_with "binaryOp Add ref ref" => ((k_here; k_dflt (refine' add_ints_K (by k_asm) (by k_asm) (by k_mem) (by k_mem) (by assumption) (by omega) ?_; k_whole); intro D' h' ws' F' N' hI'); (try (revert D' h' ws' F' N' hI'; intros)))
  k_with "exec Assign cons ListComp" => (k_here; lct_look; k_dflt (refine LCt.Assign_ListComp_T (F₀ := by k_asm) (by rfl) (by with_unfolding_all rfl) (by with_unfolding_all rfl) (by decide) (by rfl) (by decide) (by rfl) (by rfl) (by rfl) ?_); k_dflt lct_toSrc)
  k_with "CompSrcT" => (k_here; refine Stop.go ?_)
  k_with "CompEnd" => (k_here; refine Stop.go ?_)
  k_with "subscriptTail Name Name ref int" => (k_here; k_dflt (refine' item_nat_list (by is_list) (by assumption) (by omega) ?_; k_whole))
  k_with "compareOp In none ref" => (k_here; k_dflt (refine' in_disp (by is_list) (by assumption) ?_; k_whole))
  k_with "compareOp In str ref" => (k_here; k_dflt (refine' in_disp (by is_list) (by assumption) ?_; k_whole))
  k_with "mine use80" => (refine wpAny_call ?_; (refine' use0 (d := 380) (u := 800) ?B ?F ?X ?T ?hA ?hf ?hk ?hh ?hd ?hu ?_; (case B => k_asm); (case F => k_asm); (case X => k_asm); (case T => k_asm); (case hA => exact rfl); (case hf => exact rfl); (case hk => exact rfl); (case hh => exact rfl); (case hd => exact Nat.le_of_ble_eq_true rfl); (case hu => exact Nat.le_of_ble_eq_true rfl)))
  k_with "call builtin:iter" => ((k_here; (with_reducible show wpAny _ _ (call (Value.builtin "iter") [Value.str _ _]) _ _ _); k_dflt (refine' iter_str_K (by k_asm) (by k_asm) (by assumption) ?_; k_whole); intro I9 h9 F9 N9 l9 f9; (try k_lt l9)); (try (revert I9 h9 F9 N9 l9 f9; intros)))
  k_with "compareOp Is ref ref" => (k_here; (with_reducible show wpAny _ _ (compareOp CmpOp.Is (Value.ref _) (Value.ref _)) _ _ _); k_dflt (refine' is_list_other (by is_list) (by kto_obj) (by assumption) ?_; k_whole))
  k_with "exec For Name Name cons nil" => (k_here; (with_reducible show wpAny _ _ (exec (Stmt.For _ _ _ _ _) _) _ _ _); refine Stop.go ?_)
  k_with "mine use60" => (refine wpAny_call ?_; (refine' use0 (d := 360) (u := 600) ?B ?F ?X ?T ?hA ?hf ?hk ?hh ?hd ?hu ?_; (case B => k_asm); (case F => k_asm); (case X => k_asm); (case T => k_asm); (case hA => exact rfl); (case hf => exact rfl); (case hk => exact rfl); (case hh => exact rfl); (case hd => exact Nat.le_of_ble_eq_true rfl); (case hu => exact Nat.le_of_ble_eq_true rfl)))
  k_with "call ref" => ((k_here; (with_reducible show wpAny _ _ (call (Value.ref _) [Value.ref _, Value.str _ _]) _ _ _); k_dflt (walk_at "mine use60"; intro B9 X9 T9; ((refine' (show StepC _ _ _ _ _ _ _ _ _ from ?c0) _ _ _ _ _ _ _ _ ?c1 ?c2 ?c3 ?c4 ?c5 B9 X9 T9 ?_); (case c0 => assumption); (case c1 => assumption); (case c2 => assumption); (case c3 => exact Fr.keep (by k_asm)); (case c5 => assumption); (case c4 => is_list)); clear B9 X9 T9; intro a9 h9 tk9 ws9 n9 x9 f9 g9 i9; (have F9 := Fr.keeps (by k_asm) x9); (have N9 := news_cons (by k_asm) (by k_asm) x9 f9 g9); clear x9 f9 g9; (try dsimp only); (try k_sweep))); (try (revert a9 h9 tk9 ws9 n9 i9 F9 N9; intros)))
  k_with "callWith ref" => (k_here; (with_reducible show wpAny _ _ (callWith _ (Value.ref _) _ (backTo _ (starEach (_ :: _) _)) []) _ _ _); k_dflt (refine' callWith_F (by exact fnAt_kept (by k_asm) (by assumption)) ?_; k_whole))
  k_with "And" => ((with_reducible show FnAt _ _ ∧ _); k_dflt (refine ⟨fnAt_kept (by k_asm) (by assumption), ?_⟩); (try dsimp only [List.nil_append, List.cons_append]))
  trivial
def StepC (w : World) (mean : ExcName → Option Value) (mg mb : Str → Option Value) (base h₁ : Heap) (f : Addr) (x : Str) (Z : Nat → List Int) : Prop :=
  ∀ (i c : Nat) (u : Tok) (lq : Addr) (qs' : List Value) (s' : Shared) (fr' : List Env) (R' : Result → Shared → Prop), i < x.cps.size → x.cps[i]? = some c → (∀ b o, h₁.get? b = some o → s'.heap.get? b = some o) → s'.heap.IsList lq qs'.toArray → IntsAre qs' (Z i) →
      Below (AA 360 600 fr') base fr' s'.heap → (Mine.heap39 w.params).In s'.heap → Top topProg looseG mean mg mb s'.heap →
      (∀ (a : Addr) (h' : Heap) (tk' : Nat) (ws : List Value) (n : Nat), (∀ b o, s'.heap.get? b = some o → h'.get? b = some o) → s'.heap.get? a = none → h'.get? a = some (lobj ws.toArray n) → IntsAre ws (Z (i + 1)) → R' (.ok (.ret (.ref a))) { s' with heap := h', toks := tk' }) →
      codeAny (model PySem.Challenge.rw_in0045_01.row.prog w) (AA 360 600 fr') (.call (.ref f) ⟨[.ref lq, .str ⟨#[c]⟩ u], []⟩) R' s'
theorem reduce_str_spec : ∀ (w : World) (mean : ExcName → Option Value) (mg mb : Str → Option Value) (f a0 : Addr) (x : Str) (tx : Tok) (qs : List Value) (Z : Nat → List Int)
    (fr : List Env) (base : Heap) (s : Shared) (R : Result → Shared → Prop)
    (hfn : FnAt f s.heap) (hx : x.cps.all (· < 128) = true) (ha : s.heap.IsList a0 qs.toArray) (hz : IntsAre qs (Z 0)) (hne : a0 ≠ 91)
    (B : Below (AA 350 500 fr) base fr s.heap) (X : (Mine.heap39 w.params).In s.heap) (T : Top topProg looseG mean mg mb s.heap)
    (hf : StepC w mean mg mb base s.heap f x Z)
    (hret : ∀ (a : Addr) (h' : Heap) (tk' : Nat) (ws : List Value), (∀ b o, s.heap.get? b = some o → h'.get? b = some o) → h'.IsList a ws.toArray → IntsAre ws (Z x.cps.size) →
      R (.ok (.ret (.ref a))) { s with heap := h', toks := tk' }),
    codeAny (model PySem.Challenge.rw_in0045_01.row.prog w) (AA 350 500 fr) (.call (.ref 99) ⟨[.ref f, .str x tx, .ref a0], []⟩) R s := by
  k_fill
  intro w mean mg mb f a0 x tx qs Z fr base s R hfn hx ha hz hne B X T hf hret
  refine' enterS (binds := [(Str.ofString "function", .ref f), (Str.ofString "sequence", .str x tx), (Str.ofString "initial", .ref a0)]) ?k3 ?k5 ?k6 ?k7 ?k8 ?k9 ?kB ?_ ?c2 ?c3 ?c4 ?c5
  walk_at "mine sides0"
  intro L' h' F' N'
  repeat' (first | walk1 | (dsimp only; walk1))
  refine Stop.out ?_
  refine For_invVF (by assumption) (by rfl) (by rfl) ?_ (by intro _; rfl) (by passes_own)
  repeat' (first | walk1 | (dsimp only; walk1))
  refine Stop.out ?_
  rename_i I9 h9 f9 l9 hv9 h10 F9 N9
  refine' iter_strJ (fun i m' nw => ∃ a ws uk, m' = mr (fun y => if y = Str.ofString "it" then some (Value.ref I9) else List.lookup y [(Str.ofString "function", Value.ref f), (Str.ofString "sequence", Value.str x tx), (Str.ofString "initial", Value.ref a0)].reverse) (.ref a) uk ∧ IntsAre ws (Z i) ∧ ((nw = [] ∧ s.heap.IsList a ws.toArray) ∨ (∃ n, nw = [(a, lobj ws.toArray n)]))) rfl ?F ?N ?hn ?hJ ?turn ?done
  (case F => assumption)
  (case N => assumption)
  (case hn => intro p hp; cases hp)
  (case hJ => exact ⟨a0, qs, _, mr_start, hz, .inl ⟨rfl, ha⟩⟩)
  (case done =>
    rintro m₁ nw h tk ⟨a, ws, uk, rfl, hws, ⟨rfl, hl⟩ | ⟨n, rfl⟩⟩ F1 N1
    · repeat' (first | walk1 | (dsimp only; walk1))
      all_goals exact hret _ _ _ _ F1.keep (F1.lst hl) hws
    · repeat' (first | walk1 | (dsimp only; walk1))
      all_goals exact hret _ _ _ _ F1.keep ⟨_, N1.get (.head _), rfl, _, rfl⟩ hws)
  (case turn =>
    rintro i c u oI m₁ nw h tk hcI hi hc ⟨a, ws, uk, rfl, hws, ⟨rfl, hl⟩ | ⟨n, rfl⟩⟩ ho F1 N1
    · repeat' (first | walk1 | (dsimp only; walk1))
      (refine' TurnJ.list' hcI (by decide) ?F1 ?N1 ?a1 ?b1 ⟨?o1, ?ws1, ?uk1, ?m1, ?i1, .inr ⟨?n1, rfl⟩⟩; (case F1 => assumption); (case m1 => exact mr_turn); (case N1 => assumption); (case a1 => k_mem); (case b1 => k_mem); (case i1 => assumption))
    · repeat' (first | walk1 | (dsimp only; walk1))
      (refine' TurnJ.list' hcI (by decide) ?F2 ?N2 ?a2 ?b2 ⟨?o2, ?ws2, ?uk2, ?m2, ?i2, .inr ⟨?n2, rfl⟩⟩; (case F2 => assumption); (case m2 => exact mr_turn); (case N2 => assumption); (case a2 => k_mem); (case b2 => k_mem); (case i2 => assumption)))
end
section
-- text C9
open PySem PySem.W PyProof.Rows PySem.Calls
set_option maxHeartbeats 8000000
theorem rows_C9 : True := by
  k_with_none
  k_with "mine sides0" => ((case k3 => k_asm); (case k5 => k_asm); (case k6 => k_is); (case k7 => k_is); (case k8 => exact Nat.le_of_ble_eq_true rfl); (case k9 => first | exact BindsTo.of_eq rfl | exact binds_K (by k_in) rfl (by k_is) rfl rfl rfl); (case c5 => decide); (case kB => exact locs rfl); (case c2 => exact rfl); (case c3 => exact rfl); (case c4 => exact rfl))
  k_with "mine sidesC" => ((case k3 => k_asm); (case k5 => k_asm); (case k6 => k_is); (case k7 => k_is); (case k8 => exact Nat.le_of_ble_eq_true rfl); (case k9 => first | exact BindsTo.of_eq rfl | exact binds_K (by k_in) rfl (by k_is) rfl rfl rfl); (case kB => exact rfl); (case kD => decide +kernel); (case c2 => exact rfl); (case c3 => exact rfl); (case c4 => exact rfl))
  k_with "mine enter0" => ((refine' enterS (by k_asm) (by k_asm) (by k_is) (by k_is) (by exact Nat.le_of_ble_eq_true rfl) (by first | exact BindsTo.of_eq rfl | exact binds_K (by k_in) rfl (by k_is) rfl rfl rfl) (by exact locs rfl) ?_ (by exact rfl) (by exact rfl) (by exact rfl) (by decide); k_whole; intro L' h' F' N'); (try (revert L' h' F' N'; intros)))
  k_with "mine enterC" => ((refine' enterSC (by k_asm) (by k_asm) (by k_is) (by k_is) (by exact Nat.le_of_ble_eq_true rfl) (by first | exact BindsTo.of_eq rfl | exact binds_K (by k_in) rfl (by k_is) rfl rfl rfl) (by exact rfl) (by decide +kernel) ?_ (by exact rfl) (by exact rfl) (by exact rfl); k_whole; intro L' h' tk' cells' F' N' Y'; k_cells Y'; (try simp only [List.cons_append, List.nil_append, List.append_nil] at N')); (try (revert L' h' tk' cells' F' N' Y'; intros)))
  k_with "eval ListComp" => (k_here; lcf_look; k_dflt (refine LCg.ListComp_U (F₀ := by k_asm) (by with_unfolding_all rfl) (by decide) (by rfl) (by decide) (by rfl) ?_); k_dflt lcg_toSrc)
  k_with "CompSrc" => (k_here; k_dflt (first | (refine LCg.CompSrc.ledger (by rfl) (by k_asm) (by k_asm) (by k_mem) (by first | size_fits | exact Nat.le_of_ble_eq_true rfl) ?_; intro g'; lcg_lit) | (refine LCg.CompSrc.base (by rfl) (by k_asm) (by k_asm) (by assumption) (by first | size_fits | exact Nat.le_of_ble_eq_true rfl) ?_; intro g'; lcg_lit) | (refine LCg.CompSrc.range (by rfl) (by k_asm) (by k_asm) (by assumption) (by first | decide | rfl) (by first | rfl | decide) (by first | size_fits | exact Nat.le_of_ble_eq_true rfl) ?_; intro g'; lcg_lit)))
  k_with "getMethod str" => ((with_reducible show wpAny _ _ (getMethod (Value.str _ _) (PySem.Str.ofString "translate") _) _ _ _); refine GM.of _ (typeIs_str _ _ _) F.slot_str_translate F.type_str_translate GM.noRef ?_)
  k_with "call builtin:str.translate" => ((k_here; k_dflt (refine' translate_K (by k_asm) (by k_asm) (by k_asm) (by k_is) (by decide +kernel) (by assumption) (by rfl) (by rfl) (by rename _ ∨ _ => hn9; rcases hn9 with e | e <;> (rw [e]; decide +kernel)) ?_; k_whole); intro t9 h9 tk9 F9 N9); (try (revert t9 h9 tk9 F9 N9; intros)))
  k_with "getAttr ref" => ((k_here; (with_reducible show wpAny _ _ (getAttr (Value.ref _) (PySem.Str.ofString "append") _) _ _ _); k_dflt (refine' getAttr_append_K (by k_asm) (by k_asm) (by k_mem) ?_; k_whole); intro u' h' tk' F' N' l1; (try k_lt l1); (try k_sweep)); (try (revert u' h' tk' F' N' l1; intros)))
  k_with "callWith ref" => (k_here; (with_reducible show wpAny _ _ (callWith _ (Value.ref _) _ (backTo _ (starEach (_ :: _) _)) []) _ _ _); k_dflt (refine' callWith_bnd_K (by k_asm) (by k_mem) ?_; k_whole))
  k_with "And" => ((with_reducible show BndAt _ _ _ _ ∧ _); k_dflt (refine ⟨bndAt_of (by k_asm) (by k_mem), ?_⟩); (try dsimp only [List.nil_append, List.cons_append]))
  k_with "call ref" => ((k_here; k_dflt (refine' call_bnd_append_K (by k_asm) (by k_asm) (by k_mem) (by k_updF) (by first | assumption | size_fits | exact Nat.le_of_ble_eq_true rfl) ?_; k_whole); intro h' F' N'; (try dsimp only at N'); (try k_sweep)); (try (revert h' F' N'; intros)))
  k_with "exec While Compare cons nil" => (k_here; (with_reducible show wpAny _ _ (exec (Stmt.While _ _ _ _) _) _ _ _); refine Stop.go ?_)
  k_with "call builtin:len" => ((k_here; (with_reducible show wpAny _ _ (call (Value.builtin "len") [Value.str (Str.mk _) _]) _ _ _); (first | refine len_known 3 rfl rfl ?_ | refine len_known 2 rfl rfl ?_ | refine len_known 1 rfl rfl ?_ | refine len_known 0 rfl rfl ?_); intro t9 k9); (try (revert t9 k9; intros)))
  k_with "subscriptTail Name Name str int" => ((k_here; (with_reducible show wpAny _ _ (subscriptTail _ _ (Value.str _ _) (Value.int _ _)) _ _ _); k_dflt (refine' item_at (by assumption) (by omega) ?_; k_whole); intro t9 k9); (try (revert t9 k9; intros)))
  k_with "subscriptTail" => (k_here; (with_reducible show wpAny _ _ (subscriptTail _ _ (Value.ref _) (Value.int (-1) _)) _ _ _); k_dflt (refine' item_last (by k_asm) (by k_mem) (by omega) ?_; k_whole))
  k_with "truthy ref" => ((k_here; (with_reducible show wpAny _ _ (truthy (Value.ref _)) _ _ _); k_dflt (first | (refine' truthy_known true (by k_asm) (by k_mem) (by (first | assumption | exact Nat.le_of_ble_eq_true rfl | (simp only [Array.size_push]; omega))) (by (first | rfl | (simp; done))) ?_; k_whole) | (refine' truthy_known false (by k_asm) (by k_mem) (by (first | assumption | exact Nat.le_of_ble_eq_true rfl)) (by rfl) ?_; k_whole)); intro k9); (try (revert k9; intros)))
  k_with "ite" => (k_closed; k_dflt (first | refine ite_pos (by decide +kernel) ?_ | refine ite_neg (by decide +kernel) ?_))
  k_with "exec For Name Call cons nil" => (k_here; (with_reducible show wpAny _ _ (exec (Stmt.For _ _ _ _ _) _) _ _ _); refine Stop.go ?_)
  k_with "pyIter ref" => (k_here; (with_reducible show wpAny _ _ (pyIter _) (fun _ _ => LoopAtV _ _ _ _ _ _ _ _ _ _ _) _ _); refine Stop.go ?_)
  k_with "call builtin:len" => ((k_here; (with_reducible show wpAny _ _ (call (Value.builtin "len") [Value.ref _]) _ _ _); k_dflt (refine' len_list_is (by first | assumption | exact Fr.lst (by assumption) (by assumption)) (by assumption) (by omega) ?_; k_whole); intro t9 k9); (try (revert t9 k9; intros)))
  k_with "compareOp In int ref" => (k_here; k_dflt (refine' in_list_ints (by is_list) (by assumption) ?_; k_whole))
  k_with "subscriptTail Name BinOp ref int" => (k_here; k_dflt (refine' item_pred (by is_list) (by assumption) (by omega) ?_; k_whole))
  k_with "binaryOp Add ref ref" => ((k_here; k_dflt (refine' add_ints_K (by k_asm) (by k_asm) (by k_mem) (by k_mem) (by assumption) (by omega) ?_; k_whole); intro D' h' ws' F' N' hI'); (try (revert D' h' ws' F' N' hI'; intros)))
  k_with "exec Assign cons ListComp" => (k_here; lct_look; k_dflt (refine LCt.Assign_ListComp_T (F₀ := by k_asm) (by rfl) (by with_unfolding_all rfl) (by with_unfolding_all rfl) (by decide) (by rfl) (by decide) (by rfl) (by rfl) (by rfl) ?_); k_dflt lct_toSrc)
  k_with "CompSrcT" => (k_here; refine Stop.go ?_)
  k_with "CompEnd" => (k_here; refine Stop.go ?_)
  k_with "subscriptTail Name Name ref int" => (k_here; k_dflt (refine' item_nat_list (by is_list) (by assumption) (by omega) ?_; k_whole))
  k_with "compareOp In none ref" => (k_here; k_dflt (refine' in_disp (by is_list) (by assumption) ?_; k_whole))
  k_with "compareOp In str ref" => (k_here; k_dflt (refine' in_disp (by is_list) (by assumption) ?_; k_whole))
  k_with "mine use80" => (refine wpAny_call ?_; (refine' use0 (d := 380) (u := 800) ?B ?F ?X ?T ?hA ?hf ?hk ?hh ?hd ?hu ?_; (case B => k_asm); (case F => k_asm); (case X => k_asm); (case T => k_asm); (case hA => exact rfl); (case hf => exact rfl); (case hk => exact rfl); (case hh => exact rfl); (case hd => exact Nat.le_of_ble_eq_true rfl); (case hu => exact Nat.le_of_ble_eq_true rfl)))
  k_with "call builtin:iter" => ((k_here; (with_reducible show wpAny _ _ (call (Value.builtin "iter") [Value.str _ _]) _ _ _); k_dflt (refine' iter_str_K (by k_asm) (by k_asm) (by assumption) ?_; k_whole); intro I9 h9 F9 N9 l9 f9; (try k_lt l9)); (try (revert I9 h9 F9 N9 l9 f9; intros)))
  k_with "compareOp Is ref ref" => (k_here; (with_reducible show wpAny _ _ (compareOp CmpOp.Is (Value.ref _) (Value.ref _)) _ _ _); k_dflt (refine' is_list_other (by is_list) (by kto_obj) (by assumption) ?_; k_whole))
  k_with "mine use70" => (refine wpAny_call ?_; (refine' use0 (d := 370) (u := 700) ?B ?F ?X ?T ?hA ?hf ?hk ?hh ?hd ?hu ?_; (case B => k_asm); (case F => k_asm); (case X => k_asm); (case T => k_asm); (case hA => exact rfl); (case hf => exact rfl); (case hk => exact rfl); (case hh => exact rfl); (case hd => exact Nat.le_of_ble_eq_true rfl); (case hu => exact Nat.le_of_ble_eq_true rfl)))
  k_with "mine use60" => (refine wpAny_call ?_; (refine' use0 (d := 360) (u := 600) ?B ?F ?X ?T ?hA ?hf ?hk ?hh ?hd ?hu ?_; (case B => k_asm); (case F => k_asm); (case X => k_asm); (case T => k_asm); (case hA => exact rfl); (case hf => exact rfl); (case hk => exact rfl); (case hh => exact rfl); (case hd => exact Nat.le_of_ble_eq_true rfl); (case hu => exact Nat.le_of_ble_eq_true rfl)))
  k_with "mine use50" => (refine wpAny_call ?_; (refine' use0 (d := 350) (u := 500) ?B ?F ?X ?T ?hA ?hf ?hk ?hh ?hd ?hu ?_; (case B => k_asm); (case F => k_asm); (case X => k_asm); (case T => k_asm); (case hA => exact rfl); (case hf => exact rfl); (case hk => exact rfl); (case hh => exact rfl); (case hd => exact Nat.le_of_ble_eq_true rfl); (case hu => exact Nat.le_of_ble_eq_true rfl)))
  k_with "eval Name" => (k_here; kc_free; k_dflt (refine' nameX_old (by k_asm) (by rfl) (by assumption) ?_ (by rfl) (by rfl); k_whole))
  k_with "call builtin:iter" => ((k_here; (with_reducible show wpAny _ _ (call (Value.builtin "iter") [Value.ref _]) _ _ _); k_dflt (refine' iter_list_K (by k_asm) (by k_asm) (by is_list) ?_; k_whole); intro I9 h9 F9 N9 l9 f9; (try k_lt l9)); (try (revert I9 h9 F9 N9 l9 f9; intros)))
  k_with "exec For Name Name cons nil" => (k_here; (with_reducible show wpAny _ _ (exec (Stmt.For _ _ _ _ _) _) _ _ _); refine Stop.go ?_)
  k_with "callWith ref" => (k_here; (with_reducible show wpAny _ _ (callWith _ (Value.ref _) _ (backTo _ (starEach (_ :: _) _)) []) _ _ _); k_dflt (refine' callWith_F (by exact fnAt_kept (by k_asm) (by assumption)) ?_; k_whole))
  k_with "And" => ((with_reducible show FnAt _ _ ∧ _); k_dflt (refine ⟨fnAt_kept (by k_asm) (by assumption), ?_⟩); (try dsimp only [List.nil_append, List.cons_append]))
  k_with "call ref" => (k_here; (with_reducible show wpAny _ _ (call (Value.ref _) [Value.int _ _, Value.ref _]) _ _ _); refine Stop.go ?_)
  k_with "compareOp Is int ref" => (k_here; (with_reducible show wpAny _ _ (compareOp CmpOp.Is (Value.int _ _) (Value.ref _)) _ _ _); refine wpAny_is_other (by rfl) (by intro x; cases x) ?_)
  trivial
def StepI (w : World) (mean : ExcName → Option Value) (mg mb : Str → Option Value) (base h₁ : Heap) (f : Addr) (its : List Value) (V : Nat → Int) : Prop :=
  ∀ (i : Nat) (a : Addr) (u : Tok) (tb : List (Addr × Obj)) (s' : Shared) (fr' : List Env) (R' : Result → Shared → Prop) (g' : Heap), its[i]? = some (.ref a) → g' = hideAll s'.heap (tb.map (·.1)) → Tabs118 tb → (∀ q ∈ tb, s'.heap.get? q.1 = some q.2) →
    (∀ b o, h₁.get? b = some o → g'.get? b = some o) → Below (AA 330 300 fr') base fr' g' → (Mine.heap39 w.params).In g' → Top topProg looseG mean mg mb g' →
    (∀ (h' : Heap) (tk' : Nat) (tb' : List (Addr × Obj)) (u' : Tok), (∀ b o, g'.get? b = some o → h'.get? b = some o) → TabStep s'.heap h' tb tb' → R' (.ok (.ret (.int (V (i + 1)) u'))) { s' with heap := h', toks := tk' }) →
    codeAny (model PySem.Challenge.rw_in0045_01.row.prog w) (AA 330 300 fr') (.call (.ref f) ⟨[.int (V i) u, .ref a], []⟩) R' s'
def CumT (h : Heap) (tb tb' : List (Addr × Obj)) (i : Nat) : Prop := (Tabs118 tb' ∧ (0 < i → Warm118 tb')) ∧ (∀ q ∈ tb', q.1 ∈ tb.map (·.1) ∨ h.get? q.1 = none) ∧ ∀ q ∈ tb, q.1 ∈ tb'.map (·.1)
theorem CumT.start {h : Heap} {tb : List (Addr × Obj)} (x : Tabs118 tb) : CumT h tb tb 0 := ⟨⟨x, fun e => absurd e (Nat.lt_irrefl _)⟩, fun _ hq => .inl (List.mem_map_of_mem hq), fun _ hq => List.mem_map_of_mem hq⟩
theorem CumT.step {h₀ g h h' : Heap} {L : Addr} {m : Str → Option Value} {tb tb1 tb2 rest : List (Addr × Obj)} (hg : g = hideAll h₀ (tb.map (·.1))) (F : Fr g L h m) (N : News g L h (tb1 ++ rest)) {i : Nat} (c : CumT h₀ tb tb1 i) (t : TabStep h h' tb1 tb2) : CumT h₀ tb tb2 (i + 1) := by
  refine ⟨⟨.inr t.st, fun _ => t.st⟩, fun q hq => ?_, fun q hq => ?_⟩
  · rcases t.fresh q hq with h1 | h1
    · obtain ⟨p, hp, e⟩ := List.mem_map.mp h1
      rcases c.2.1 p hp with h2 | h2
      · left; rw [← e]; exact h2
      · right; rw [← e]; exact h2
    · by_cases hb : q.1 ∈ tb.map (·.1)
      · exact .inl hb
      · right
        cases e : h₀.get? q.1 with
        | none => rfl
        | some o =>
          have := F.keep _ _ (show g.get? q.1 = some o by rw [hg]; exact hideAll_get _ e hb)
          rw [h1] at this; cases this
  · obtain ⟨p, hp, e⟩ := List.mem_map.mp (c.2.2 q hq)
    have := t.old p hp
    rw [e] at this; exact this
theorem reduce_list_spec : ∀ (w : World) (mean : ExcName → Option Value) (mg mb : Str → Option Value) (f l : Addr) (its : List Value) (V : Nat → Int) (t0 : Tok) (tb : List (Addr × Obj))
    (fr : List Env) (base g : Heap) (s : Shared) (R : Result → Shared → Prop)
    (hg : g = hideAll s.heap (tb.map (·.1))) (hts : Tabs118 tb) (htb : ∀ q ∈ tb, s.heap.get? q.1 = some q.2)
    (hfn : FnAt f g) (hlen : 0 < its.length) (hl : g.IsList l its.toArray) (hrefs : ∀ (i : Nat) (v : Value), its[i]? = some v → ∃ a, v = .ref a)
    (B : Below (AA 320 200 fr) base fr g) (X : (Mine.heap39 w.params).In g) (T : Top topProg looseG mean mg mb g)
    (hf : StepI w mean mg mb base g f its V)
    (hret : ∀ (h' : Heap) (tk' : Nat) (tb' : List (Addr × Obj)) (u' : Tok), (∀ b o, g.get? b = some o → h'.get? b = some o) → TabStep s.heap h' tb tb' → R (.ok (.ret (.int (V its.length) u'))) { s with heap := h', toks := tk' }),
    codeAny (model PySem.Challenge.rw_in0045_01.row.prog w) (AA 320 200 fr) (.call (.ref 99) ⟨[.ref f, .ref l, .int (V 0) t0], []⟩) R s := by
  k_fill
  intro w mean mg mb f l its V t0 tb fr base g s R hg hts htb hfn hlen hl hrefs B X T hf hret
  have Xs : (Mine.heap39 w.params).In s.heap := fun a o e => of_hideAll _ (hg ▸ X a o e)
  refine' enter0 (tb := tb) (binds := [(Str.ofString "function", .ref f), (Str.ofString "sequence", .ref l), (Str.ofString "initial", .int (V 0) t0)]) g hg htb ?k3 ?k5 ?k6 ?k7 ?k8 ?k9 ?kB ?_ ?c2 ?c3 ?c4 ?c5
  walk_at "mine sides0"
  clear Xs
  intro L' h' F' N' l0
  repeat' (first | walk1 | (dsimp only; walk1))
  refine Stop.out ?_
  refine For_invVF (by assumption) (by rfl) (by rfl) ?_ (by intro _; rfl) (by passes_own)
  repeat' (first | walk1 | (dsimp only; walk1))
  refine Stop.out ?_
  rename_i I9 h9 l9 f9 h10 h11 F9 N9
  rw [show its.length = its.toArray.size from (List.size_toArray).symm] at hret
  refine' iter_listJ (l := l) (items := its.toArray) (news := tb) (fun i m' nw => ∃ u uk, m' = mr (fun y => if y = Str.ofString "it" then some (Value.ref I9) else List.lookup y [(Str.ofString "function", Value.ref f), (Str.ofString "sequence", Value.ref l), (Str.ofString "initial", Value.int (V 0) t0)].reverse) (.int (V i) u) uk ∧ CumT s.heap tb nw i) rfl ?F hl ?N ?hn ?hJ ?turn ?done
  (case F => assumption)
  (case N => assumption)
  (case hn => intro p hp; exact Nat.ne_of_lt (l9 p hp))
  (case hJ => exact ⟨_, _, mr_start, CumT.start hts⟩)
  (case done =>
    rintro m₁ nw h tk ⟨u, uk, rfl, hc⟩ F1 N1
    repeat' (first | walk1 | (dsimp only; walk1))
    all_goals exact hret _ _ nw _ F1.keep ⟨hc.1.2 (by rw [List.size_toArray]; exact hlen), fun q hq => (N1 q hq).1, hc.2.1, hc.2.2⟩)
  (case turn =>
    rintro i v oI m₁ nw h tk hcI hi hv ⟨u, uk, rfl, hc⟩ ho F1 N1
    have hv' : its[i]? = some v := by simpa using hv
    obtain ⟨a, rfl⟩ := hrefs i v hv'
    clear F9 N9
    repeat' (first | walk1 | (dsimp only; walk1))
    refine Stop.out ?_
    refine wpAny_call ?_
    refine' useT (tb := nw) (d := 330) (u := 300) B F1 (fun q hq => N1 q (.tail _ hq)) X T ?hA ?hf ?hk ?hh ?hd ?hu ?_
    (case hA => exact rfl)
    (case hf => exact rfl)
    (case hk => exact rfl)
    (case hh => exact rfl)
    (case hd => exact Nat.le_of_ble_eq_true rfl)
    (case hu => exact Nat.le_of_ble_eq_true rfl)
    intro g' hg' st B9 X9 T9
    refine hf i a u nw _ _ _ g' hv' hg' hc.1.1 (fun q hq => (N1 q (.tail _ hq)).1) st B9 X9 T9 ?_
    intro h' tk' tb' u' k ts
    have N2 : News g L' h (nw ++ [(I9, oI)]) := fun q hq => by
      rcases List.mem_append.mp hq with hq | hq
      · exact N1 q (.tail _ hq)
      · rw [List.mem_singleton.mp hq]; exact N1 _ (.head _)
    have hI : ∀ p ∈ [(I9, oI)], p.1 ∉ nw.map (·.1) := fun p hp hm => by
      rw [List.mem_singleton.mp hp] at hm
      obtain ⟨q, hq, e⟩ := List.mem_map.mp hm
      exact ho q hq e
    obtain ⟨F3, N3⟩ := after_tab F1 N2 hI (hg' ▸ k) ts
    have hc' := CumT.step hg F1 N2 hc ts
    have ho' : ∀ p ∈ tb', p.1 ≠ I9 := fun p hp e => by
      rcases ts.fresh p hp with h1 | h1
      · rw [e] at h1; exact hI _ (.head _) h1
      · rw [e] at h1
        have := (N1 _ (.head _)).1
        have h2 : h.get? I9 = none := h1
        rw [h2] at this; cases this
    have N4 : News g L' h' ((I9, oI) :: tb') := fun q hq => by
      rcases List.mem_cons.mp hq with rfl | hq
      · exact N3 _ (List.mem_append_right _ (.head _))
      · exact N3 _ (List.mem_append_left _ hq)
    clear N3 N2 F1 N1
    repeat' (first | walk1 | (dsimp only; walk1))
    rename Fr _ _ _ _ => F5
    rename News _ _ _ _ => N5
    exact ⟨_, _, _, tb', rfl, F5, N5, ho', _, _, mr_turn, hc'⟩)
end
section
-- text N52
open PySem PySem.W PyProof.Rows PySem.Calls
set_option maxHeartbeats 8000000
noncomputable def oldA (P : Params) : List (Addr × Obj) := [(0, boot_o_0 P), (4, boot_o_4 P), (3, at39 P 3), (2, at39 P 2), (89, at39 P 89)]
theorem OldOk.get {h : Heap} {old : List (Addr × Obj)} (H : ∀ p ∈ old, h.get? p.1 = some p.2) : OldOk h [] old := fun p hp => ⟨H p hp, by simp [X.away]⟩
theorem Mem.up {h₀ h : Heap} {nw : List (Addr × Obj)} (D : X.Mem h₀ h [] nw) : ∀ b o, h₀.get? b = some o → h.get? b = some o := fun b o e => D.keep _ _ e (by simp [X.away])
theorem ne85 {L : Addr} (h : @LT.lt Nat instLTNat 85 L) : L + 1 ≠ 85 := Nat.ne_of_gt (Nat.lt_succ_of_lt h)
theorem startM (h : Heap) : X.Mem h h [] [] := X.Mem.start h
theorem fr85 {g h h7 : Heap} {L c : Addr} {m : Str → Option Value} {o' o85 o : Obj} {ex : List (Addr × Obj)} (F : Fr g L h m) (N : News g L h [(c, o'), (85, o)]) (c85 : c ≠ 85) (k : ∀ b o, (hideAll h [85]).get? b = some o → h7.get? b = some o) (e : h7.get? 85 = some o85)
    (hex : ∀ p ∈ ex, h7.get? p.1 = some p.2 ∧ (hideAll h [85]).get? p.1 = none ∧ p.1 ≠ 85) :
    Fr g L h7 m ∧ News g L h7 ((c, o') :: (85, o85) :: ex) := by
  have hL : L ≠ 85 := fun x => (N _ (.tail _ (.head _))).2.1 x.symm
  have up : ∀ b o, b ≠ 85 → h.get? b = some o → h7.get? b = some o := fun b o hb e => k b o (hideAll_get _ e fun hm => hb (List.mem_singleton.mp hm))
  have old : ∀ b o, g.get? b = some o → b ≠ 85 := fun b o e hb => by
    have := (N _ (.tail _ (.head _))).2.2
    rw [hb] at e
    rw [e] at this; cases this
  refine ⟨⟨?_, fun b o e => up b o (old b o e) (F.keep b o e), F.above⟩, fun p hp => ?_⟩
  · obtain ⟨oL, a1, a2, hL', a3⟩ := F.ns
    exact ⟨oL, a1, a2, up _ _ hL hL', a3⟩
  · rcases List.mem_cons.mp hp with rfl | hp
    · have n := N _ (.head _)
      exact ⟨up _ _ c85 n.1, n.2⟩
    · rcases List.mem_cons.mp hp with rfl | hp
      · have n := N _ (.tail _ (.head _))
        exact ⟨e, n.2⟩
      · obtain ⟨e1, e2, e3⟩ := hex p hp
        have off : ∀ o, h.get? p.1 = some o → False := fun o q => by
          rw [hideAll_get _ q fun hm => e3 (List.mem_singleton.mp hm)] at e2; cases e2
        refine ⟨e1, fun x => ?_, ?_⟩
        · obtain ⟨oL, _, _, hL', _⟩ := F.ns
          exact off _ (x ▸ hL')
        · cases q : g.get? p.1 with
          | none => rfl
          | some o => exact (off _ (F.keep _ _ q)).elim
theorem class_tail {prog : Program} {w : World} {A : Around} {E : Value → Shared → Prop} {Q : Flow → Shared → Prop} {s : Shared} {name : Str} {bases keywords body decorators scope x1 bind statics pos} {env : Env} {G : Addr → Heap → Tok → Prop}
    (fin : ∀ a h tk, G a h tk → wpAny (model prog w) A (bindName env bind (.ref a) >>= fun _ => pure .next) Q E { s with heap := h, toks := tk })
    (main : (∀ a h tk, G a h tk → wpAny (model prog w) A (bindName env bind (.ref a) >>= fun _ => pure .next) Q E { s with heap := h, toks := tk }) → wpAny (model prog w) A (exec (.ClassDef name bases keywords body decorators [] scope x1 bind statics pos) env) Q E s) :
    wpAny (model prog w) A (exec (.ClassDef name bases keywords body decorators [] scope x1 bind statics pos) env) Q E s := main fin
theorem Mem.hide1 {h : Heap} {a : Addr} {o : Obj} (e : h.get? a = some o) : X.Mem (hideAll h [a]) h [] [(a, o)] where
  keep b o' e' _ := of_hideAll _ e'
  ch _ hp := nomatch hp
  cd := List.nodup_nil
  nw p hp := by
    obtain rfl := List.mem_singleton.mp hp
    exact ⟨e, hideAll_none _ (.head _)⟩
  ord := List.pairwise_singleton _ _
def codO (c1 c2 : Addr) (t : Tok) : Obj := { cls := .type "code", data := .fields #[.str (Str.ofString "K") t, .str (Str.ofString "cmp_to_key.<locals>.K") (t + 1), .str (Str.ofString "/claim/cut.py") (t + 2), rawInt 114, rawInt 0, rawInt 0, rawInt 0, rawInt 0, .ref c1, .bool true, rawInt 276, .ref c2, .none, .none, .none, .none, rawInt (t + 4), rawInt 114, .str (Str.ofString "/claim/cut.py") (t + 5)] }
def frO (k c3 : Addr) : Obj := { cls := .type "frame", data := .plain, slots := #[some (.ref c3), some (.ref 3), some (.ref (k + 86)), none, some (.str (Str.ofString "law_in0045_01") 564), none, some (.ref 0)] }
def nObj (nw : List (Addr × Obj)) (i : Nat) : Obj := (nw.getD i (0, kTup .none)).2
def hsOf (nw : List (Addr × Obj)) (i : Nat) : Int := match (nObj nw 53).data with
  | .dict es _ => match es[i]? with
    | some e => e.hash
    | none => 0
  | _ => 0
def tokV : Value → Tok
  | .str _ t => t
  | .int _ t => t
  | _ => 0
def tsOf (nw : List (Addr × Obj)) (tkK : Tok) (i : Nat) : Tok := if i = 40 then tkK else if i = 30 then (match (nObj nw 48).data with | .seq xs _ => tokV (xs.getD 0 .none) | _ => 0) else match (nObj nw 53).data with
  | .dict es _ => match es[if i < 20 then i else i - 20]? with
    | some e => if i < 20 then tokV e.key else tokV e.val
    | none => 0
  | _ => 0
def fsOf (l : List Addr) (i : Nat) : Addr := l.getD i 0
def defOf (b : List Stmt) (i : Nat) : Arguments × List Stmt × Scope := match b[i]? with
  | some (.FunctionDef _ ps bd _ _ _ sc _ _ _) => (ps, bd, sc)
  | _ => (⟨[], [], none, [], [], none, []⟩, [], ⟨.function, [], false, false, []⟩)
def classOf (o : Obj) : List Stmt := match o.data with
  | .func fd => match fd.body with
    | .stmts (.ClassDef _ _ _ b _ _ _ _ _ _ _ :: _) => b
    | _ => []
  | _ => []
noncomputable def kDef (P : Params) (i : Nat) : Arguments × List Stmt × Scope := defOf (classOf (at39 P 90)) i
def fObj (d : Arguments × List Stmt × Scope) (name qual : Str) (cl : List (Str × Addr)) (c : Addr) (ct : Value) : Obj :=
  { cls := .type "function", data := .func { name := name, qualname := qual, params := d.1, body := .stmts d.2.1, scope := d.2.2, globals := 3, closure := cl, defaults := .none, kwdefaults := .none, pyModule := .str (Str.ofString "law_in0045_01") 564, code := .ref c, closureTuple := ct } }
structure KRec where
  n2 : Addr
  m : Addr
  bt : Addr
  c1 : Addr
  c2 : Addr
  ct : Value
  hs : Nat → Int
  ts : Nat → Tok
  fs : Nat → Addr
  h1 : Int
  h2 : Int
  t0 : Tok
  t1 : Tok
  t2 : Tok
  v1 : Nat → Value
  v2 : Nat → Value
  q1 : Tok
  q2 : Tok
def fieldAt (o : Obj) (i : Nat) : Value := match o.data with
  | .fields vs => vs.getD i .none
  | _ => .none
def codeV (v : Nat → Value) (q : Str) (t : Tok) : Obj := { cls := .type "code", data := .fields #[v 0, .str q t, v 2, v 3, v 4, v 5, v 6, v 7, v 8, v 9, v 10, v 11, v 12, v 13, v 14, v 15, v 16, v 17, v 18] }
def initQ : Str := Str.ofString "cmp_to_key.<locals>.K.__init__"
def ltQ : Str := Str.ofString "cmp_to_key.<locals>.K.__lt__"
noncomputable def KRec.list (x : KRec) (P : Params) (a cell : Addr) : List (Addr × Obj) := [(a, clsO a x.n2 x.bt x.t0 x.t1), (x.n2, ns2O x.hs x.ts x.fs x.m x.h1 x.h2 (x.t2 + 1) (x.t2 + 2)), (x.m, mO a x.t2),
  (x.fs 1, fObj (kDef P 2) (Str.ofString "__init__") initQ [] x.c1 .none), (x.fs 2, fObj (kDef P 3) (Str.ofString "__lt__") ltQ [(Str.ofString "mycmp", cell)] x.c2 x.ct), (x.c1, codeV x.v1 initQ x.q1), (x.c2, codeV x.v2 ltQ x.q2)]
def KAt (w : World) (g h : Heap) (a : Addr) : Prop := ∃ (x : KRec) (cell : Addr) (o' o85 : Obj), o'.data = .cell (some (.ref 130)) ∧ (∃ vs, o85 = tabObj vs) ∧
  (∀ p ∈ (cell, o') :: (85, o85) :: x.list w.params a cell, h.get? p.1 = some p.2) ∧ (∀ p ∈ (cell, o') :: (85, o85) :: x.list w.params a cell, g.get? p.1 = none)
theorem at3 {h₀ h : Heap} {nw : List (Addr × Obj)} (D : X.Mem h₀ h [] nw) (i : Nat) {a : Addr} {o o85 : Obj} (hi : nw[i]? = some (a, o)) (hj : nw[56]? = some (85, o85)) (lt : Nat.blt i 56 = true) :
    h.get? a = some o ∧ h₀.get? a = none ∧ a ≠ 85 := ⟨D.at _ _ _ hi, (D.nw _ (List.mem_of_getElem? hi)).2, D.ne i 56 a 85 o o85 hi hj lt⟩
theorem call_type_at (w : World) (A : Around) (E : Value → Shared → Prop) (Q : Result → Shared → Prop) (s : Shared) (h₀ : Heap) (nw : List (Addr × Obj)) (D : X.Mem h₀ s.heap [] nw) (bt k : Addr) (tkK : Tok) (g : Bool) (lv : List Value) (l : List Addr) (l15 l23 cell : Addr) (ct : Value) (o85 : Obj)
   (hK : (Mine.heap39 w.params).In s.heap)
   (c0 : nw[55]? = some (bt, kTup (.type "object"))) (c1 : nw[53]? = some (k + 86, kNs (hsOf nw) (tsOf nw tkK) (fsOf l))) (c2 : nw[48]? = some (fsOf l 0, kSlots0 (tsOf nw tkK 30)))
   (c3 : nw[41]? = some (fsOf l 1, fObj (kDef w.params 2) (Str.ofString "__init__") initQ [] l15 .none)) (c4 : nw[33]? = some (fsOf l 2, fObj (kDef w.params 3) (Str.ofString "__lt__") ltQ [(Str.ofString "mycmp", cell)] l23 ct))
   (c5 : nw[25]? = some (fsOf l 3, ⟨.type "function", none, (nObj nw 25).data, (nObj nw 25).slots⟩)) (c6 : nw[17]? = some (fsOf l 4, ⟨.type "function", none, (nObj nw 17).data, (nObj nw 17).slots⟩))
   (c7 : nw[9]? = some (fsOf l 5, ⟨.type "function", none, (nObj nw 9).data, (nObj nw 9).slots⟩)) (c8 : nw[1]? = some (fsOf l 6, ⟨.type "function", none, (nObj nw 1).data, (nObj nw 1).slots⟩))
   (c9 : nw[0]? = some (fsOf l 7, ⟨.type "tuple", none, (nObj nw 0).data, (nObj nw 0).slots⟩))
   (c10 : nw[42]? = some (l15, codeV (fieldAt (nObj nw 42)) initQ (tokV (fieldAt (nObj nw 42) 1)))) (c12 : nw[34]? = some (l23, codeV (fieldAt (nObj nw 34)) ltQ (tokV (fieldAt (nObj nw 34) 1)))) (c14 : nw[56]? = some (85, o85))
   (hq : ∀ (x : KRec) (a : Addr) (h' : Heap) (tk' : Nat), (∀ b o, s.heap.get? b = some o → h'.get? b = some o) → (∀ p ∈ x.list w.params a cell, h'.get? p.1 = some p.2 ∧ h₀.get? p.1 = none ∧ p.1 ≠ 85) → h'.get? 85 = some o85 →
     Q (.ok (.ret (.ref a))) { s with heap := h', toks := tk' }) :
   wpAny (model PySem.Challenge.rw_in0045_01.row.prog w) A (.call (.call (.type "type") ⟨[.str (Str.ofString "K") tkK, .ref bt, .ref (k + 86)], []⟩) none g lv Sem.pure) Q E s := by
  refine call_type_spec w A E Q s (hsOf nw) (tsOf nw tkK) (fsOf l) (fun i => if i = 1 then (fObj (kDef w.params 2) (Str.ofString "__init__") initQ [] l15 .none).data else if i = 2 then (fObj (kDef w.params 3) (Str.ofString "__lt__") ltQ [(Str.ofString "mycmp", cell)] l23 ct).data else (nObj nw (49 - 8 * i)).data) (fun i => if i = 1 then #[] else if i = 2 then #[] else (nObj nw (49 - 8 * i)).slots) bt k g lv hK (OldOk.get ?_) ?_
  · intro p hp
    simp only [olds3, List.mem_cons, List.not_mem_nil, or_false] at hp
    rcases hp with rfl | rfl | rfl | rfl | rfl | rfl | rfl | rfl | rfl | rfl
    · exact D.at _ _ _ c0
    · exact D.at _ _ _ c1
    · exact D.at _ _ _ c2
    · exact D.at _ _ _ c3
    · exact D.at _ _ _ c4
    · exact D.at _ _ _ c5
    · exact D.at _ _ _ c6
    · exact D.at _ _ _ c7
    · exact D.at _ _ _ c8
    · exact D.at _ _ _ c9
  · intro a n2 m h' tk' tk0 up fa fn fm ea en em
    have u0 : ∀ b o, h₀.get? b = some o → s.heap.get? b = some o := fun b o e => D.keep _ _ e (by simp [X.away])
    have e85 := D.at _ _ _ c14
    have ne : ∀ b, s.heap.get? b = none → b ≠ 85 := fun b q x => by rw [x, e85] at q; cases q
    refine hq ⟨n2, m, bt, l15, l23, ct, hsOf nw, tsOf nw tkK, fsOf l, (reduceHash (w.params.strHash (Str.ofString "obj").cps)), (reduceHash (w.params.strHash (Str.ofString "__doc__").cps)), tkK, tsOf nw tkK 21, tk0, fieldAt (nObj nw 42), fieldAt (nObj nw 34), tokV (fieldAt (nObj nw 42) 1), tokV (fieldAt (nObj nw 34) 1)⟩ a h' tk' up ?_ (up _ _ e85)
    intro p hp
    simp only [KRec.list, List.mem_cons, List.not_mem_nil, or_false] at hp
    rcases hp with rfl | rfl | rfl | rfl | rfl | rfl | rfl
    · exact ⟨ea, none_of u0 fa, ne _ fa⟩
    · exact ⟨en, none_of u0 fn, ne _ fn⟩
    · exact ⟨em, none_of u0 fm, ne _ fm⟩
    · obtain ⟨x1, x2, x3⟩ := at3 D 41 c3 c14 rfl; exact ⟨up _ _ x1, x2, x3⟩
    · obtain ⟨x1, x2, x3⟩ := at3 D 33 c4 c14 rfl; exact ⟨up _ _ x1, x2, x3⟩
    · obtain ⟨x1, x2, x3⟩ := at3 D 42 c10 c14 rfl; exact ⟨up _ _ x1, x2, x3⟩
    · obtain ⟨x1, x2, x3⟩ := at3 D 34 c12 c14 rfl; exact ⟨up _ _ x1, x2, x3⟩
theorem ctk_spec : ∀ (w : World) (mean : ExcName → Option Value) (mg mb : Str → Option Value)
    (fr : List Env) (base g : Heap) (s : Shared) (R : Result → Shared → Prop)
    (hg : g = hideAll s.heap [85]) (ht : s.heap.get? 85 = some (tabObj #[])) (hb0 : g.get? 0 = some (boot_o_0 w.params)) (hb4 : g.get? 4 = some (boot_o_4 w.params))
    (B : Below (AA 340 400 fr) base fr g) (X : (Mine.heap39 w.params).In g) (T : Top topProg looseG mean mg mb g)
    (hret : ∀ (a : Addr) (h' : Heap) (tk' : Nat), (∀ b o, g.get? b = some o → h'.get? b = some o) → KAt w g h' a → R (.ok (.ret (.ref a))) { s with heap := h', toks := tk' }),
    codeAny (model PySem.Challenge.rw_in0045_01.row.prog w) (AA 340 400 fr) (.call (.ref 90) ⟨[.ref 130], []⟩) R s := by
  k_fill
  intro w mean mg mb fr base g s R hg ht hb0 hb4 B X T hret
  refine' enterC (tb := [(85, tabObj #[])]) (binds := [(Str.ofString "mycmp", .ref 130)]) g hg ?kt ?k3 ?k5 ?k6 ?k7 ?k8 ?k9 ?kB ?kD ?_ ?c2 ?c3 ?c4
  (case kt => intro q hq; rw [List.mem_singleton.mp hq]; exact ht)
  walk_at "mine sidesC"
  intro L' h' tk' cells' F' N' Y' l0
  k_cells Y'
  (try simp only [List.cons_append, List.nil_append, List.append_nil] at N')
  k_lt l0
  walk1
  refine class_tail (G := fun a h tk => ∀ {m o' o}, Fr g L' h' m → News g L' h' [(L' + 1, o'), (85, o)] → ∃ (o85 : Obj) (x : KRec), (∃ vs, o85 = tabObj vs) ∧ Fr g L' h m ∧ News g L' h ((L' + 1, o') :: (85, o85) :: x.list w.params a (L' + 1))) ?fin ?main
  (case fin =>
    intro a h7 tk17 hG
    obtain ⟨o85, x, h85, F7, N7⟩ := hG F' N'
    clear F' N' hG
    dsimp only
    refine wpAny_bind ?_
    repeat' (first | walk1 | (dsimp only; walk1) | (refine wpAny_pure ?_; dsimp only))
    rename Fr _ _ _ _ => F8
    rename News _ _ _ _ => N8
    exact hret _ _ _ F8.keep ⟨x, L' + 1, _, _, by assumption, h85, fun p hp => (N8 p hp).1, fun p hp => (N8 p hp).2.2⟩)
  intro FIN
  rw [arm_exec_ClassDef]
  have hold : OldOk (hideAll h' [85]) [] (oldA w.params) := OldOk.get (by
    intro p hp
    have up : ∀ b o, b ≠ 85 → g.get? b = some o → (hideAll h' [85]).get? b = some o := fun b o hb e => hideAll_get _ (F'.keep _ _ e) (fun hm => hb (List.mem_singleton.mp hm))
    simp only [oldA, List.mem_cons, List.not_mem_nil, or_false] at hp
    rcases hp with rfl | rfl | rfl | rfl | rfl
    · exact up 0 _ (by decide) hb0
    · exact up 4 _ (by decide) hb4
    · exact up 3 _ (by decide) (X 3 _ (by kernel_rfl))
    · exact up 2 _ (by decide) (X 2 _ (by kernel_rfl))
    · exact up 89 _ (by decide) (X 89 _ (by kernel_rfl)))
  have ug : ∀ b o, g.get? b = some o → (hideAll h' [85]).get? b = some o := fun b o e => hideAll_get _ (F'.keep _ _ e) (fun hm => by
    have hb := List.mem_singleton.mp hm
    rw [hb, hg, hideAll_none _ (.head _)] at e; cases e)
  have D := Mem.hide1 (N'.get (a := 85) (by k_mem))
  refine st hold D 0 [] (⟨[], [], [(85, tabObj #[])], by kernel_rfl, by kernel_rfl, by kernel_rfl, fun h tk D => ?_⟩)
  refine st hold D 0 [] (⟨[], ⟨⟩, [(85, tabObj #[])], by kernel_rfl, by kernel_rfl, by kernel_rfl, fun h tk D => ?_⟩)
  refine st hold D 0 [500] (⟨[0], ⟨⟩, [(85, tabObj #[])], by kernel_rfl, by kernel_rfl, by kernel_rfl, fun h tk D => ?_⟩)
  refine wpAny_bind (wpAny_holding ?_)
  refine st hold D 0 [502,500] (⟨[3,0], ⟨[.type "object"], []⟩, [(85, tabObj #[])], by kernel_rfl, by kernel_rfl, by kernel_rfl, fun h tk D => ?_⟩)
  refine st hold D 0 [] (⟨[], ⟨⟩, [(85, tabObj #[])], by kernel_rfl, by kernel_rfl, by kernel_rfl, fun h tk D => ?_⟩)
  refine wpAny_holding ?_
  delta buildClass
  refine st hold D 1 [] (fun bt => ⟨[], .ref bt, [(bt, kTup (.type "object")), (85, tabObj #[])], by kernel_rfl, by kernel_rfl, by kernel_rfl, fun h tk D => ?_⟩)
  refine st hold D 0 [] (⟨[], ([.type "object"], false), [(bt, kTup (.type "object")), (85, tabObj #[])], by kernel_rfl, by kernel_rfl, by kernel_rfl, fun h tk D => ?_⟩)
  refine st hold D 0 [] (⟨[], .type "type", [(bt, kTup (.type "object")), (85, tabObj #[])], by kernel_rfl, by kernel_rfl, by kernel_rfl, fun h tk D => ?_⟩)
  refine st hold D 0 [] (⟨[], true, [(bt, kTup (.type "object")), (85, tabObj #[])], by kernel_rfl, by kernel_rfl, by kernel_rfl, fun h tk D => ?_⟩)
  refine st hold D 0 [] (⟨[], .type "type", [(bt, kTup (.type "object")), (85, tabObj #[])], by kernel_rfl, by kernel_rfl, by kernel_rfl, fun h tkK D => ?_⟩)
  refine st hold D 0 [] (⟨[], .str (Str.ofString "K") tkK, [(bt, kTup (.type "object")), (85, tabObj #[])], by kernel_rfl, by kernel_rfl, by kernel_rfl, fun h tk D => ?_⟩)
  refine st hold D 0 [] (⟨[], .ref bt, [(bt, kTup (.type "object")), (85, tabObj #[])], by kernel_rfl, by kernel_rfl, by kernel_rfl, fun h tk D => ?_⟩)
  refine wpAny_holding ?_
  refine wpAny_bind ?_
  with_reducible refine stC hold D 0 [] ?_
  refine ⟨[], (.call (.builtin "type.__getattribute__") ⟨[.type "type", .str (Str.ofString "__prepare__") tk], []⟩, none, true, []), [(bt, kTup (.type "object")), (85, tabObj #[])], by kernel_rfl, by kernel_rfl, by kernel_rfl, fun h tk2 D => ?_⟩
  refine prepM w _ _ _ _ _ _ _ _ _ _ D (fun p h tk3 D => ?_)
  show wpAny (model PySem.Challenge.rw_in0045_01.row.prog w) _ (kOf _ _) _ _ _
  with_reducible refine stV hold D 0 [] ?_
  refine ⟨[], some (.ref p), [(p, pO), (bt, kTup (.type "object")), (85, tabObj #[])], by kernel_rfl, by kernel_rfl, by kernel_rfl, fun h tk4 D => ?_⟩
  refine wpAny_bind ?_
  with_reducible refine stC hold D 0 [] ?_
  refine ⟨[], (.call (.ref p) ⟨[.str (Str.ofString "K") tkK, .ref bt], []⟩, none, false, []), [(p, pO), (bt, kTup (.type "object")), (85, tabObj #[])], by kernel_rfl, by kernel_rfl, by kernel_rfl, fun h tk5 D => ?_⟩
  refine prep2M w _ _ _ _ _ _ _ _ _ _ D (fun k h tk6 D => ?_)
  show wpAny (model PySem.Challenge.rw_in0045_01.row.prog w) _ (kOf _ _) _ _ _
  with_reducible refine stV hold D 0 [] ?_
  refine ⟨[], .ref (k + 86), [(k + 86, nsE), (p, pO), (bt, kTup (.type "object")), (85, tabObj #[])], by kernel_rfl, by kernel_rfl, by kernel_rfl, fun h tk7 D => ?_⟩
  refine st hold D 0 [] (⟨[], ⟨⟩, [(k + 86, nsE), (p, pO), (bt, kTup (.type "object")), (85, tabObj #[])], by kernel_rfl, by kernel_rfl, by kernel_rfl, fun h tk D => ?_⟩)
  refine st hold D 0 [3] (⟨[k + 86], some (.builtin "dict.__getitem__"), [(k + 86, nsE), (p, pO), (bt, kTup (.type "object")), (85, tabObj #[])], by kernel_rfl, by kernel_rfl, by kernel_rfl, fun h tk D => ?_⟩)
  refine if_f (by kernel_rfl) ?_
  refine wpAny_holding ?_
  refine if_f (by kernel_rfl) ?_
  refine st hold D 0 [] (⟨[], none, [(k + 86, nsE), (p, pO), (bt, kTup (.type "object")), (85, tabObj #[])], by kernel_rfl, by kernel_rfl, by kernel_rfl, fun h tk D => ?_⟩)
  refine if_f (by kernel_rfl) ?_
  refine st hold D 0 [] (⟨[], none, [(k + 86, nsE), (p, pO), (bt, kTup (.type "object")), (85, tabObj #[])], by kernel_rfl, by kernel_rfl, by kernel_rfl, fun h tk4 D => ?_⟩)
  refine st hold D 3 [504,0,0,0,0] (fun c1 c2 c3 => ⟨[89,85,85,85,85], .ref c3, [(c3, codO c1 c2 tk4), (c2, tabObj #[]), (c1, kTup (.str (Str.ofString "mycmp") (tk4 + 3))), (k + 86, nsE), (p, pO), (bt, kTup (.type "object")), (85, tabObj #[rawInt 114, rawInt 4, .ref c3])], by kernel_rfl, by kernel_rfl, by kernel_rfl, fun h tk D => ?_⟩)
  refine st hold D 0 [502,501] (⟨[3,4], 0, [(c3, codO c1 c2 tk4), (c2, tabObj #[]), (c1, kTup (.str (Str.ofString "mycmp") (tk4 + 3))), (k + 86, nsE), (p, pO), (bt, kTup (.type "object")), (85, tabObj #[rawInt 114, rawInt 4, .ref c3])], by kernel_rfl, by kernel_rfl, by kernel_rfl, fun h tk D => ?_⟩)
  refine st hold D 1 [502] (fun f => ⟨[3], f, [(f, frO k c3), (c3, codO c1 c2 tk4), (c2, tabObj #[]), (c1, kTup (.str (Str.ofString "mycmp") (tk4 + 3))), (k + 86, nsE), (p, pO), (bt, kTup (.type "object")), (85, tabObj #[rawInt 114, rawInt 4, .ref c3])], by kernel_rfl, by kernel_rfl, by kernel_rfl, fun h tk D => ?_⟩)
  refine st hold D 0 [] (⟨[], [(Str.ofString "mycmp", L' + 1)], [(f, frO k c3), (c3, codO c1 c2 tk4), (c2, tabObj #[]), (c1, kTup (.str (Str.ofString "mycmp") (tk4 + 3))), (k + 86, nsE), (p, pO), (bt, kTup (.type "object")), (85, tabObj #[rawInt 114, rawInt 4, .ref c3])], by kernel_rfl, by kernel_rfl, by kernel_rfl, fun h tk8 D => ?_⟩)
  refine wpAny_holding ?_
  refine wpAny_bind (wpAny_enterFrame (T.nolimit.keeps fun b o e => Mem.up D _ _ (ug _ _ e)) (Nat.le_of_ble_eq_true rfl) ?_)
  refine st hold D 0 [3, 3, 502, 3, 3, 3, 3, 3, 3, 3, 3, 3] (⟨[k + 86,k + 86,3,k + 86,k + 86,k + 86,k + 86,k + 86,k + 86,k + 86,k + 86,k + 86], ⟨⟩, _, by kernel_rfl, by kernel_rfl, rfl, fun h tk9 D => ?_⟩)
  refine wpAny_bind (wpAny_run (PySem.W.X.x_code ?_))
  with_reducible refine stV hold D 48 [3, 3, 3, 3, 3, 3, 6, 5, 5, 5, 5, 502, 501, 502, 3, 3, 3, 6, 5, 5, 5, 5, 502, 501, 502, 3, 3, 3, 6, 5, 5, 5, 5, 502, 501, 502, 3, 3, 3, 6, 5, 5, 5, 5, 502, 501, 502, 3, 3, 3, 6, 5, 5, 5, 5, 502, 501, 502, 3, 3, 3, 6, 5, 5, 5, 5, 502, 501, 502, 3, 3, 3, 3, 3, 3] ?_
  refine (fun a9 a10 a11 a12 a13 a14 a15 a16 a17 a18 a19 a20 a21 a22 a23 a24 a25 a26 a27 a28 a29 a30 a31 a32 a33 a34 a35 a36 a37 a38 a39 a40 a41 a42 a43 a44 a45 a46 a47 a48 a49 a50 a51 a52 a53 a54 a55 a56 => ⟨[k + 86, k + 86, k + 86, k + 86, k + 86, k + 86, c3, c2, c2, c2, c2, 3, 4, 3, k + 86, k + 86, k + 86, c3, c2, c2, c2, c2, 3, 4, 3, k + 86, k + 86, k + 86, c3, c2, c2, c2, c2, 3, 4, 3, k + 86, k + 86, k + 86, c3, c2, c2, c2, c2, 3, 4, 3, k + 86, k + 86, k + 86, c3, c2, c2, c2, c2, 3, 4, 3, k + 86, k + 86, k + 86, c3, c2, c2, c2, c2, 3, 4, 3, k + 86, k + 86, k + 86, k + 86, k + 86, k + 86], .done .next, _, by kernel_rfl, by kernel_rfl, rfl, fun h tk10 D => ?_⟩)
  refine st hold D 1 [3,3,3] (fun a57 => ⟨[k + 86, k + 86, k + 86], ⟨⟩, _, by kernel_rfl, by kernel_rfl, rfl, fun h tk11 D => ?_⟩)
  refine if_f (by kernel_rfl) ?_
  refine wpAny_bind ?_
  with_reducible refine stC hold D 0 [] ?_
  refine ⟨[], (.call (.type "type") ⟨[.str (Str.ofString "K") tkK, .ref bt, .ref (k + 86)], []⟩, none, false, []), _, by kernel_rfl, by kernel_rfl, rfl, fun h tk12 D => ?_⟩
  have uc : ∀ b o, (hideAll h' [85]).get? b = some o → h.get? b = some o := Mem.up D
  refine call_type_at w _ _ _ _ _ _ D bt k tkK _ _ [a9, a16, a24, a32, a40, a48, a56, a57] a15 a23 (L' + 1) (.ref a17) (tabObj #[rawInt 114, rawInt 4, .ref c3]) (X.keeps fun b o e => Mem.up D _ _ (ug _ _ e)) (by kernel_rfl) (by kernel_rfl) (by kernel_rfl) (by kernel_rfl) (by kernel_rfl) (by kernel_rfl) (by kernel_rfl) (by kernel_rfl) (by kernel_rfl) (by kernel_rfl) (by kernel_rfl) (by kernel_rfl) (by kernel_rfl) ?_
  intro x a h3 tk13 up3 hex e85
  show wpAny (model PySem.Challenge.rw_in0045_01.row.prog w) _ (kOf _ _) _ _ _
  have D3 := startM h3
  with_reducible refine stV (no_old (chg := [])) D3 0 [] ?_
  refine ⟨[], .ref a, [], by kernel_rfl, by kernel_rfl, by kernel_rfl, fun h4 tk14 D4 => ?_⟩
  have u4 : ∀ b o, h3.get? b = some o → h4.get? b = some o := Mem.up D4
  have hold4 : OldOk h4 [] [] := no_old
  have D4 := startM h4
  with_reducible refine stV hold4 D4 0 [] ?_
  refine ⟨[], .ref a, [], by kernel_rfl, by kernel_rfl, by kernel_rfl, fun h5 tk15 D5 => ?_⟩
  refine st (no_old (chg := [])) (startM h5) 0 [] ⟨[], .ref a, [], by kernel_rfl, by kernel_rfl, by kernel_rfl, fun h6 tk16 D6 => ?_⟩
  refine st (no_old (chg := [])) (startM h6) 0 [] ⟨[], ⟨⟩, [], by kernel_rfl, by kernel_rfl, by kernel_rfl, fun h7 tk17 D7 => ?_⟩
  have u7 : ∀ b o, h3.get? b = some o → h7.get? b = some o := fun b o e => Mem.up D7 _ _ (Mem.up D6 _ _ (Mem.up D5 _ _ (u4 _ _ e)))
  have uz : ∀ b o, (hideAll h' [85]).get? b = some o → h7.get? b = some o := fun b o e => u7 _ _ (up3 _ _ (uc _ _ e))
  exact FIN a h7 tk17 (fun F N => ⟨tabObj #[rawInt 114, rawInt 4, .ref c3], x, ⟨_, rfl⟩, fr85 F N (ne85 l0) uz (u7 _ _ e85) (fun p hp => ⟨u7 _ _ (hex p hp).1, (hex p hp).2⟩)⟩)
end
section
-- text N56
open PySem PySem.W PyProof.Rows PySem.Calls PySem.W.X
set_option maxHeartbeats 0
noncomputable def boot2 (P : Params) : Obj := Obj.mk Value.none none (Data.dict #[DictEntry.mk (PyData.keyHash P (Str.ofString "\x69mport.loaded._sre")) (Value.str (Str.ofString "\x69mport.loaded._sre") 183) (Value.bool true), DictEntry.mk (PyData.keyHash P (Str.ofString "class._frozen_importlib.BuiltinImporter")) (Value.str (Str.ofString "class._frozen_importlib.BuiltinImporter") 185) (Value.ref 14), DictEntry.mk (PyData.keyHash P (Str.ofString "watched.\x69mport")) (Value.str (Str.ofString "watched.\x69mport") 206) (Value.ref 18), DictEntry.mk (PyData.keyHash P (Str.ofString "class._frozen_importlib.ModuleSpec")) (Value.str (Str.ofString "class._frozen_importlib.ModuleSpec") 216) (Value.ref 22), DictEntry.mk (PyData.keyHash P (Str.ofString "sys.modules.booked-epoch")) (Value.str (Str.ofString "sys.modules.booked-epoch") 245) (Value.int 3 0), DictEntry.mk (PyData.keyHash P (Str.ofString "\x69mport.later-laid._sre")) (Value.str (Str.ofString "\x69mport.later-laid._sre") 270) (Value.bool true), DictEntry.mk (PyData.keyHash P (Str.ofString "watched.library")) (Value.str (Str.ofString "watched.library") 272) (Value.ref 27), DictEntry.mk (PyData.keyHash P (Str.ofString "watched.library-objects")) (Value.str (Str.ofString "watched.library-objects") 0) (Value.str (Str.ofString "\x0c") 0), DictEntry.mk (PyData.keyHash P (Str.ofString "watched.library-deep._sre")) (Value.str (Str.ofString "watched.library-deep._sre") 273) (Value.str (Str.ofString "\x04\x00\x00\x0b\x04\x00\x00\x0b\x04\x00\x00\x03\x04\x00\x00\x0b\x08\x04dict\x02") 0)] 9) #[]
def kInit : Arguments × List Stmt × Scope := ((Arguments.mk [] [Arg.mk (Str.ofString "self") none (Pos.mk 118 21 118 25), Arg.mk (Str.ofString "obj") none (Pos.mk 118 27 118 30)] none [] [] none []), [Stmt.Assign [Expr.Attribute (Expr.Name (Str.ofString "self") (Pos.mk 119 12 119 16)) (Str.ofString "obj") (Pos.mk 119 12 119 20)] (Expr.Name (Str.ofString "obj") (Pos.mk 119 23 119 26)) (Pos.mk 119 12 119 26)], (Scope.mk ScopeKind.function [(Str.ofString "self", NameKind.local), (Str.ofString "obj", NameKind.local)] false false []))
theorem boot2_is (P : Params) : at39 P 2 = boot2 P := by kernel_rfl
theorem kInit_is (P : Params) : kDef P 2 = kInit := by kernel_rfl
noncomputable def K2 : Params → Frag := fun P => (nat_lit 2, boot2 P) :: []
def instO (a d : Addr) (x : Str) (t : Tok) : Obj := { cls := .ref a, dict := some d, data := .plain, slots := #[some (.str x t)] }
def KeyQ (s : Shared) (a : Addr) (x : Str) (t : Tok) (Q : Value → Shared → Prop) : Prop := ∀ (i d : Addr) (h' : Heap) (tk' : Nat), (∀ b o, s.heap.get? b = some o → h'.get? b = some o) → s.heap.get? i = none → h'.get? i = some (instO a d x t) → Q (.ref i) { s with heap := h', toks := tk' }
theorem KeyQ.use {s : Shared} {a : Addr} {x : Str} {t : Tok} {Q : Value → Shared → Prop} {h : Heap} {f i d : Addr} {fo io od : Obj} {tk : Nat} (H : KeyQ s a x t Q) (D : Mem s.heap h [] [(f, fo), (i, io), (d, od)]) (e : io = instO a d x t) : Q (.ref i) ⟨h, s.gens, s.drawn, tk, s.os⟩ :=
  H i d h tk (fun _ _ e => D.keep _ _ e (by simp [away])) (D.nw _ (.tail _ (.head _))).2 (e ▸ (D.nw _ (.tail _ (.head _))).1)
local macro_rules | `(tactic| x_close) => `(tactic| exact KeyQ.use (by assumption) (by assumption) (by kernel_rfl))
theorem key_x (prog : Program) (hrw : PySem.Challenge.rw_in0045_01 = PySem.Challenge.rw_in0045_01) (w : World) (fr : List Env) (env : Env) (E : Value → Shared → Prop) (s : Shared) (Q : Value → Shared → Prop) (X : (K2 w.params).In s.heap) (a n2 bt m c1 : Addr) (t0 t1 t2 q1 : Tok) (hs : Nat → Int) (ts : Nat → Tok) (fs : Nat → Addr) (h1 h2 : Int) (v1 : Nat → Value) (x : Str) (tx : Tok)
   (e : s.heap.get? a = some ⟨.type "type", none, .cls { name := Str.ofString "K", bases := [.type "object"], mro := [.ref a, .type "object"], ns := n2, qualname := Str.ofString "cmp_to_key.<locals>.K", hasDict := false, slotNames := [Str.ofString "obj"] }, #[some (.ref bt), none, some (.str (Str.ofString "K") t0), some (.str (Str.ofString "cmp_to_key.<locals>.K") t1), some (.builtin "object.__new__"), some (.bool false)]⟩)
   (en : s.heap.get? n2 = some ⟨.type "dict", none, (ns2O hs ts fs m h1 h2 (t2 + 1) (t2 + 2)).data, #[]⟩)
   (em : s.heap.get? m = some ⟨.type "member_descriptor", none, (mO a t2).data, #[]⟩)
   (ef : s.heap.get? (fs 1) = some ⟨.type "function", none, (fObj (kInit) (Str.ofString "__init__") initQ [] c1 .none).data, #[]⟩)
   (ec : s.heap.get? c1 = some ⟨.type "code", none, (codeV v1 initQ q1).data, #[]⟩) (hq : KeyQ s a x tx Q) :
   wpAny (model prog w) ((AA 320 200 fr).deeper env) (call (.ref a) [.str x tx]) Q E s := by
  k_fill
  clear hrw
  x_run
theorem key_is (w : World) (fr : List Env) (env : Env) (E : Value → Shared → Prop) (s : Shared) (Q : Value → Shared → Prop) (X : (K2 w.params).In s.heap) (a cell : Addr) (r : KRec) (x : Str) (tx : Tok)
   (hr : ∀ p ∈ r.list w.params a cell, s.heap.get? p.1 = some p.2) (hq : KeyQ s a x tx Q) :
   wpAny (model PySem.Challenge.rw_in0045_01.row.prog w) ((AA 320 200 fr).deeper env) (call (.ref a) [.str x tx]) Q E s :=
  key_x _ rfl w fr env E s Q X a r.n2 r.bt r.m r.c1 r.t0 r.t1 r.t2 r.q1 r.hs r.ts r.fs r.h1 r.h2 r.v1 x tx (hr _ (.head _)) (hr _ (.tail _ (.head _))) (hr _ (.tail _ (.tail _ (.head _)))) (kInit_is w.params ▸ hr _ (.tail _ (.tail _ (.tail _ (.head _))))) (hr _ (.tail _ (.tail _ (.tail _ (.tail _ (.tail _ (.head _))))))) hq
end
section
-- text N57
open PySem PySem.W PyProof.Rows PySem.Calls PySem.W.X
set_option maxHeartbeats 0
noncomputable def oldG (a i d n2 m bt : Addr) (hs : Nat → Int) (ts : Nat → Tok) (fs : Nat → Addr) (h1 h2 : Int) (t0 t1 t2 : Tok) (x : Str) (tx : Tok) : List (Addr × Obj) := [(i, instO a d x tx), (a, clsO a n2 bt t0 t1), (n2, ns2O hs ts fs m h1 h2 (t2 + 1) (t2 + 2)), (m, mO a t2)]
def GetQ (s : Shared) (x : Str) (tx : Tok) (Q : Result → Shared → Prop) : Prop := ∀ (tk' : Nat), Q (.ok (.ret (.str x tx))) ⟨s.heap, s.gens, s.drawn, tk', s.os⟩
theorem GetQ.use {s : Shared} {x : Str} {tx : Tok} {Q : Result → Shared → Prop} {tk : Nat} (H : GetQ s x tx Q) : Q (.ok (.ret (.str x tx))) ⟨s.heap, s.gens, s.drawn, tk, s.os⟩ := H tk
local macro_rules | `(tactic| x_close) => `(tactic| exact GetQ.use (by assumption))
theorem get_x (prog : Program) (w : World) (A : Around) (E : Value → Shared → Prop) (s : Shared) (Q : Result → Shared → Prop) (a i d n2 bt m : Addr) (t0 t1 t2 t5 : Tok) (hs : Nat → Int) (ts : Nat → Tok) (fs : Nat → Addr) (h1 h2 : Int) (x : Str) (tx : Tok)
   (ei : s.heap.get? i = some ⟨.ref a, some d, .plain, #[some (.str x tx)]⟩)
   (e : s.heap.get? a = some ⟨.type "type", none, .cls { name := Str.ofString "K", bases := [.type "object"], mro := [.ref a, .type "object"], ns := n2, qualname := Str.ofString "cmp_to_key.<locals>.K", hasDict := false, slotNames := [Str.ofString "obj"] }, #[some (.ref bt), none, some (.str (Str.ofString "K") t0), some (.str (Str.ofString "cmp_to_key.<locals>.K") t1), some (.builtin "object.__new__"), some (.bool false)]⟩)
   (en : s.heap.get? n2 = some ⟨.type "dict", none, (ns2O hs ts fs m h1 h2 (t2 + 1) (t2 + 2)).data, #[]⟩)
   (em : s.heap.get? m = some ⟨.type "member_descriptor", none, (mO a t2).data, #[]⟩) (hq : GetQ s x tx Q) :
   wpAny (model prog w) A (.call (.builtin "proto.getattr_hooked" ⟨[.ref i, .str (Str.ofString "obj") t5], []⟩) none false [.ref i] Sem.pure) Q E s := by
  x_run
theorem getobj (w : World) (A : Around) (E : Value → Shared → Prop) (s : Shared) (Q : Value → Shared → Prop) (b : Bool) (a i d cell : Addr) (r : KRec) (x : Str) (tx : Tok)
   (hi : s.heap.get? i = some (instO a d x tx)) (hr : ∀ p ∈ r.list w.params a cell, s.heap.get? p.1 = some p.2)
   (hq : ∀ (h' : Heap) (tk' : Nat), (∀ b o, s.heap.get? b = some o → h'.get? b = some o) → Q (.str x tx) { s with heap := h', toks := tk' }) :
   wpAny (model PySem.Challenge.rw_in0045_01.row.prog w) A (getAttr (.ref i) (Str.ofString "obj") b) Q E s := by
  k_fill
  have hold : OldOk s.heap [] (oldG a i d r.n2 r.m r.bt r.hs r.ts r.fs r.h1 r.h2 r.t0 r.t1 r.t2 x tx) := OldOk.get (by
    intro p hp
    simp only [oldG, List.mem_cons, List.not_mem_nil, or_false] at hp
    rcases hp with rfl | rfl | rfl | rfl
    · exact hi
    · exact hr _ (.head _)
    · exact hr _ (.tail _ (.head _))
    · exact hr _ (.tail _ (.tail _ (.head _))))
  have D := Mem.start s.heap
  cases b
  all_goals
    with_reducible refine stC hold D 0 [500,501,501,502] ?_
    refine ⟨[i, a, a, r.n2], (.builtin "proto.getattr_hooked" ⟨[.ref i, .str (Str.ofString "obj") s.toks], []⟩, none, false, [.ref i]), [], by kernel_rfl, by kernel_rfl, by kernel_rfl, fun h1 tk1 D1 => ?_⟩
    have u1 := Mem.up D1
    refine get_x _ w _ _ _ _ a i d r.n2 r.bt r.m r.t0 r.t1 r.t2 _ r.hs r.ts r.fs r.h1 r.h2 x tx (u1 _ _ hi) (u1 _ _ (hr _ (.head _))) (u1 _ _ (hr _ (.tail _ (.head _)))) (u1 _ _ (hr _ (.tail _ (.tail _ (.head _))))) ?_
    intro tk2
    show wpAny (model PySem.Challenge.rw_in0045_01.row.prog w) _ (kOf _ _) _ _ _
    with_reducible refine stV no_old (Mem.start h1) 0 [] ?_
    exact ⟨[], .str x tx, [], by kernel_rfl, by kernel_rfl, by kernel_rfl, fun h3 tk3 D3 => hq h3 tk3 fun b o e => Mem.up D3 _ _ (u1 _ _ e)⟩
end
section
-- text N55
open PySem PySem.W PyProof.Rows PySem.Calls
set_option maxHeartbeats 8000000
def cmpF (x y : Str) : Int := if (x.length : Int) = y.length then (if y.cps.toList < x.cps.toList then -1 else if x.cps.toList < y.cps.toList then 1 else 0) else (y.length : Int) - x.length
theorem cmpF_ne {x y : Str} (h : (x.length : Int) ≠ y.length) : cmpF x y = (y.length : Int) - x.length := if_neg h
theorem cmpF_gt {x y : Str} (h : (x.length : Int) = y.length) (g : y.cps.toList < x.cps.toList) : cmpF x y = -1 := (if_pos h).trans (if_pos g)
theorem cmpF_le {x y : Str} (h : (x.length : Int) = y.length) (g : ¬ y.cps.toList < x.cps.toList) : cmpF x y = if decide (x.cps.toList < y.cps.toList) = true then 1 else 0 := (if_pos h).trans ((if_neg g).trans (by simp))
theorem compare_spec : ∀ (w : World) (mean : ExcName → Option Value) (mg mb : Str → Option Value) (x y : Str) (t1 t2 : Tok)
    (fr : List Env) (base : Heap) (s : Shared) (R : Result → Shared → Prop)
    (hx : x.length ≤ 2) (hy : y.length ≤ 2)
    (B : Below (AA 390 900 fr) base fr s.heap) (X : (Mine.heap39 w.params).In s.heap) (T : Top topProg looseG mean mg mb s.heap)
    (hret : ∀ (t : Tok) (h' : Heap) (tk' : Nat), (∀ b o, s.heap.get? b = some o → h'.get? b = some o) → R (.ok (.ret (.int (cmpF x y) t))) { s with heap := h', toks := tk' }),
    codeAny (model PySem.Challenge.rw_in0045_01.row.prog w) (AA 390 900 fr) (.call (.ref 130) ⟨[.str x t1, .str y t2], []⟩) R s := by
  k_fill
  intro w mean mg mb x y t1 t2 fr base s R hx hy B X T hret
  refine' enterS (binds := [(Str.ofString "one", .str x t1), (Str.ofString "two", .str y t2)]) ?k3 ?k5 ?k6 ?k7 ?k8 ?k9 ?kB ?_ ?c2 ?c3 ?c4 ?c5
  walk_at "mine sides0"
  intro L' h' F' N'
  repeat' (first | walk1 | (dsimp only; walk1))
  · have q := fun tk t => hret t _ tk (Fr.keep (by assumption))
    rw [cmpF_ne (by assumption)] at q
    exact q _ _
  · have q := fun tk t => hret t _ tk (Fr.keep (by assumption))
    rw [cmpF_gt (by assumption) (by assumption)] at q
    exact q _ _
  · have q := fun tk t => hret t _ tk (Fr.keep (by assumption))
    rw [cmpF_le (by assumption) (by assumption)] at q
    exact q _ _
end
section
-- text N58
open PySem PySem.W PyProof.Rows PySem.Calls
set_option maxHeartbeats 8000000
theorem rows_N58 : True := by
  k_with "getAttr ref" => (k_here; (with_reducible show wpAny _ _ (getAttr (Value.ref _) (PySem.Str.ofString "obj") _) _ _ _); refine Stop.go ?_)
  k_with "call ref" => (k_here; (with_reducible show wpAny _ _ (call (Value.ref 130) [Value.str _ _, Value.str _ _]) _ _ _); refine Stop.go ?_)
  k_with "mine use90" => (refine wpAny_call ?_; (refine' use0 (d := 390) (u := 900) ?B ?F ?X ?T ?hA ?hf ?hk ?hh ?hd ?hu ?_; (case B => k_asm); (case F => k_asm); (case X => k_asm); (case T => k_asm); (case hA => exact rfl); (case hf => exact rfl); (case hk => exact rfl); (case hh => exact rfl); (case hd => exact Nat.le_of_ble_eq_true rfl); (case hu => exact Nat.le_of_ble_eq_true rfl)))
  trivial
section
variable {prog : Program} {w : World} {A : Around} {s : Shared} {mg mb : Str → Option Value} {p : Program} {loose : List Str} {mean : ExcName → Option Value} {R : Result → Shared → Prop} {name qual : Str} {params : Arguments} {body : List Stmt} {scope : Scope} {dV kV doc pm cdv ct oc : Value} {an od : Option Addr} {osl : Array (Option Value)} {f : Addr} {args : Args} {binds : List (Str × Value)} {cl : List (Str × Addr)}
theorem enterX (T : Top p loose mean mg mb s.heap)
    (ho : s.heap.get? f = some ⟨oc, od, .func (fnX name qual params body scope cl dV kV doc pm an cdv ct), osl⟩) (hcd : s.heap.CodeRec cdv qual) (hroom : A.depth < recursionLimit)
    (hbind : BindsTo s (fnX name qual params body scope cl dV kV doc pm an cdv ct) args binds) (hloc : ∀ y ∈ binds, scope.names.lookup y.1 = some .local)
    (h : ∀ L' h₁, Fr s.heap L' h₁ (fun y => binds.reverse.lookup y) → News s.heap L' h₁ [] →
      wpAny (model prog w) (A.deeper (envX qual scope L' f cdv cl)) (execs body (envX qual scope L' f cdv cl))
        (fun fl s' => R (.ok (.ret (match fl with | .ret v => v | _ => .none))) s')
        (fun e s' => wpAny (model prog w) (A.deeper (envX qual scope L' f cdv cl)) (leaving (envX qual scope L' f cdv cl) e) (fun _ s'' => R (.error e) s'') (fun e' s'' => R (.error e') s'') s')
        { s with heap := h₁, toks := s.toks + binds.length })
    (hco : scope.isCoroutine = false) (hgen : scope.isGenerator = false) (hk : scope.kind = .function)
    (hcell : ∀ x ∈ scope.names, x.2 ≠ .cell) : codeAny (model prog w) A (.call (.ref f) args) R s := by
  refine codeAny_call_def (fd := fnX name qual params body scope cl dV kV doc pm an cdv ct) (body := body) (binds := binds) hroom ho rfl T.nolimit hcd rfl hbind hcell hloc (fun h₁ hns hk₁ => ?_) hco hgen hk
  exact h s.heap.objs.size h₁ ⟨hns, fun b o e => hk₁ b o e, Nat.le_refl _⟩ News.nil
end
theorem ltf_spec : ∀ (w : World) (mean : ExcName → Option Value) (mg mb : Str → Option Value) (f c2 cell : Addr) (ct : Value) (a i1 d1 i2 d2 : Addr) (r : KRec) (x y : Str) (tx ty : Tok) (ps : Arguments) (bd : List Stmt) (sc : Scope)
    (fr : List Env) (base : Heap) (s : Shared) (R : Result → Shared → Prop)
    (hE : kDef w.params 3 = (ps, bd, sc)) (hf : s.heap.get? f = some (fObj (ps, bd, sc) (Str.ofString "__lt__") ltQ [(Str.ofString "mycmp", cell)] c2 ct)) (hc : s.heap.CodeRec (.ref c2) ltQ) (hcell : CellAt s.heap cell (.ref 130))
    (hi1 : s.heap.get? i1 = some (instO a d1 x tx)) (hi2 : s.heap.get? i2 = some (instO a d2 y ty)) (hr : ∀ p ∈ r.list w.params a cell, s.heap.get? p.1 = some p.2) (hx : x.length ≤ 2) (hy : y.length ≤ 2)
    (B : Below (AA 380 800 fr) base fr s.heap) (X : (Mine.heap39 w.params).In s.heap) (T : Top topProg looseG mean mg mb s.heap)
    (hret : ∀ (h' : Heap) (tk' : Nat), (∀ b o, s.heap.get? b = some o → h'.get? b = some o) → R (.ok (.ret (.bool (decide (cmpF x y < 0))))) { s with heap := h', toks := tk' }),
    codeAny (model PySem.Challenge.rw_in0045_01.row.prog w) (AA 380 800 fr) (.call (.ref f) ⟨[.ref i1, .ref i2], []⟩) R s := by
  k_fill
  intro w mean mg mb f c2 cell ct a i1 d1 i2 d2 r x y tx ty ps bd sc fr base s R hE hf hc hcell hi1 hi2 hr hx hy B X T hret
  cases hE
  refine' enterX (binds := [(Str.ofString "self", .ref i1), (Str.ofString "other", .ref i2)]) T hf hc ?k8 ?k9 ?kB ?_ ?c2 ?c3 ?c4 ?c5
  (case k8 => exact Nat.le_of_ble_eq_true rfl)
  (case k9 => exact BindsTo.of_eq rfl)
  (case kB => exact locs rfl)
  (case c2 => exact rfl)
  (case c3 => exact rfl)
  (case c4 => exact rfl)
  (case c5 => decide)
  intro L' h' F' N'
  repeat' (first | walk1 | (dsimp only; walk1))
  refine Stop.out ?_
  refine getobj w _ _ _ _ _ a i1 d1 cell r x tx (F'.keep _ _ hi1) (fun p hp => F'.keep _ _ (hr p hp)) ?_
  intro h2 tk2 k2
  have F2 := Fr.keeps F' k2
  have N2 := News.keeps N' k2
  clear F' N' k2
  repeat' (first | walk1 | (dsimp only; walk1))
  refine Stop.out ?_
  refine getobj w _ _ _ _ _ a i2 d2 cell r y ty (F2.keep _ _ hi2) (fun p hp => F2.keep _ _ (hr p hp)) ?_
  intro h3 tk3 k3
  have F3 := Fr.keeps F2 k3
  have N3 := News.keeps N2 k3
  clear F2 N2 k3
  repeat' (first | walk1 | (dsimp only; walk1))
  refine Stop.out ?_
  walk_at "mine use90"
  intro B9 X9 T9
  refine compare_spec w mean mg mb x y tx ty _ _ _ _ hx hy B9 X9 T9 ?_
  clear B9 X9 T9
  intro t9 h9 tk9 x9
  have F9 := Fr.keeps F3 x9
  have N9 := News.keeps N3 x9
  clear F3 N3 x9
  repeat' (first | walk1 | (dsimp only; walk1))
  all_goals exact hret _ _ (Fr.keep (by assumption))
end
section
-- text N59
open PySem PySem.W PyProof.Rows PySem.Calls PySem.W.X
set_option maxHeartbeats 0
noncomputable def oldL (P : Params) (a cell i1 d1 i2 d2 : Addr) (r : KRec) (x y : Str) (tx ty : Tok) : List (Addr × Obj) := [(i1, instO a d1 x tx), (i2, instO a d2 y ty), (a, clsO a r.n2 r.bt r.t0 r.t1), (r.n2, ns2O r.hs r.ts r.fs r.m r.h1 r.h2 (r.t2 + 1) (r.t2 + 2)), (r.fs 2, fObj (kDef P 3) (Str.ofString "__lt__") ltQ [(Str.ofString "mycmp", cell)] r.c2 r.ct)]
theorem if_b {α : Type} {prog : Program} {w : World} {A : Around} {E : Value → Shared → Prop} {s : Shared} {Q : α → Shared → Prop} {b : Bool} {t e : Sem α} (x : wpAny (model prog w) A t Q E s) (y : wpAny (model prog w) A e Q E s) : wpAny (model prog w) A (if b = true then t else e) Q E s := by
  cases b
  · exact y
  · exact x
theorem bound_is (w : World) (A : Around) (E : Value → Shared → Prop) (s : Shared) (Q : Option (Value × List Value) → Shared → Prop) (a cell i1 d1 i2 d2 : Addr) (r : KRec) (x y : Str) (tx ty : Tok)
   (hold : OldOk s.heap [] (oldL w.params a cell i1 d1 i2 d2 r x y tx ty))
   (hq : ∀ h' tk', (∀ b o, s.heap.get? b = some o → h'.get? b = some o) → Q (some (.ref (r.fs 2), [.ref i1])) { s with heap := h', toks := tk' }) :
   wpAny (model PySem.Challenge.rw_in0045_01.row.prog w) A (bindSpecialIfBound? (.ref i1) (Str.ofString "__lt__")) Q E s := by
  k_fill
  have D := Mem.start s.heap
  delta bindSpecialIfBound?
  refine st hold D 0 [500,502,502,503] ⟨[i1, a, a, r.n2], some (.ref (r.fs 2)), [], by kernel_rfl, by kernel_rfl, by kernel_rfl, fun h tk D => ?_⟩
  refine st hold D 0 [] ⟨[], ⟨PySem.Challenge.rw_in0045_01.row.prog, w.params⟩, [], by kernel_rfl, by kernel_rfl, by kernel_rfl, fun h tk D => ?_⟩
  refine if_b ?_ ?_
  all_goals
    with_reducible refine stV hold D 0 [504] ?_
    exact ⟨[r.fs 2], some (.ref (r.fs 2), [.ref i1]), [], by kernel_rfl, by kernel_rfl, by kernel_rfl, fun h tk D => hq h tk (Mem.up D)⟩
theorem lt_is (w : World) (A : Around) (E : Value → Shared → Prop) (s : Shared) (Q : Value → Shared → Prop) (a cell i1 d1 i2 d2 : Addr) (r : KRec) (x y : Str) (tx ty : Tok)
   (hu : A.units < cLine) (hold : OldOk s.heap [] (oldL w.params a cell i1 d1 i2 d2 r x y tx ty)) (v : Bool)
   (hcall : ∀ (s' : Shared) (Q' : Value → Shared → Prop), (∀ b o, s.heap.get? b = some o → s'.heap.get? b = some o) → s'.gens = s.gens → s'.drawn = s.drawn → s'.os = s.os →
     (∀ h' tk', (∀ b o, s.heap.get? b = some o → h'.get? b = some o) → Q' (.bool v) { s with heap := h', toks := tk' }) → wpAny (model PySem.Challenge.rw_in0045_01.row.prog w) A (call (.ref (r.fs 2)) [.ref i1, .ref i2]) Q' E s')
   (hq : ∀ h' tk', (∀ b o, s.heap.get? b = some o → h'.get? b = some o) → Q (.bool v) { s with heap := h', toks := tk' }) :
   wpAny (model PySem.Challenge.rw_in0045_01.row.prog w) A (compareOp .Lt (.ref i1) (.ref i2)) Q E s := by
  k_fill
  have D := Mem.start s.heap
  show wpAny _ _ (richCompare .Lt (.ref i1) (.ref i2)) _ _ _
  delta richCompare
  refine wpAny_holding ?_
  refine wpAny_bind (wpAny_cRoomFor hu ?_)
  refine st hold D 0 [500] ⟨[i1], .ref a, [], by kernel_rfl, by kernel_rfl, by kernel_rfl, fun h tk D => ?_⟩
  refine st hold D 0 [501] ⟨[i2], .ref a, [], by kernel_rfl, by kernel_rfl, by kernel_rfl, fun h tk D => ?_⟩
  refine if_f (by simp) ?_
  refine st hold D 0 [] ⟨[], false, [], by kernel_rfl, by kernel_rfl, by kernel_rfl, fun h tk D => ?_⟩
  refine if_f (by rfl) ?_
  refine wpAny_bind ?_
  delta tryCompare
  refine wpAny_bind ?_
  delta callSpecialIfBound?
  refine wpAny_holding ?_
  refine wpAny_bind ?_
  have u0 := Mem.up D
  refine bound_is w _ _ _ _ a cell i1 d1 i2 d2 r x y tx ty (hold.more u0) ?_
  intro h1 tk1 k1
  refine wpAny_bind ?_
  refine hcall _ _ (fun b o e => k1 _ _ (u0 _ _ e)) rfl rfl rfl ?_
  intro h2 tk2 k2
  refine wpAny_pure ?_
  refine wpAny_pure ?_
  refine wpAny_pure ?_
  exact hq h2 tk2 k2
end
section
-- text N60
open PySem PySem.W PyProof.Rows PySem.Calls
set_option maxHeartbeats 8000000
def KHeap (w : World) (h : Heap) (a cell : Addr) (r : KRec) : Prop := ∃ o', o'.data = .cell (some (.ref 130)) ∧ h.get? cell = some o' ∧ ∀ p ∈ r.list w.params a cell, h.get? p.1 = some p.2
theorem KHeap.keeps {w : World} {h h' : Heap} {a cell : Addr} {r : KRec} (x : KHeap w h a cell r) (k : ∀ b o, h.get? b = some o → h'.get? b = some o) : KHeap w h' a cell r :=
  let ⟨o, a1, a2, a3⟩ := x; ⟨o, a1, k _ _ a2, fun p hp => k _ _ (a3 p hp)⟩
def InstAt (h : Heap) (a i : Addr) (x : Str) : Prop := ∃ d t, h.get? i = some (instO a d x t) ∧ x.length ≤ 2
theorem InstAt.keeps {h h' : Heap} {a i : Addr} {x : Str} (y : InstAt h a i x) (k : ∀ b o, h.get? b = some o → h'.get? b = some o) : InstAt h' a i x :=
  let ⟨d, t, a1, a2⟩ := y; ⟨d, t, k _ _ a1, a2⟩
def ltS (x y : Str) : Bool := decide (cmpF x y < 0)
theorem lt_K {w : World} {A₀ A : Around} {base h₀ : Heap} {outer : List Env} {L : Addr} {m mg mb : Str → Option Value} {env : Env} {mean : ExcName → Option Value} {E : Value → Shared → Prop} {s : Shared} {Q : Value → Shared → Prop} {a cell i1 i2 : Addr} {r : KRec} {x y : Str}
    (B : Below A₀ base outer h₀) (F : Fr h₀ L s.heap m) (X : (Mine.heap39 w.params).In h₀) (T : Top topProg looseG mean mg mb h₀) (hA : A.frames = some (env :: outer)) (hf : env.frame = some L) (hke : env.scope.kind = .function)
    (hh : A.handled = none) (hd : A.depth ≤ 380) (hu : A.units ≤ 800) (H : KHeap w s.heap a cell r) (h1 : InstAt s.heap a i1 x) (h2 : InstAt s.heap a i2 y)
    (h : ∀ h' tk', (∀ b o, s.heap.get? b = some o → h'.get? b = some o) → Q (.bool (ltS x y)) { s with heap := h', toks := tk' }) :
    wpAny (model PySem.Challenge.rw_in0045_01.row.prog w) A (compareOp .Lt (.ref i1) (.ref i2)) Q E s := by
  obtain ⟨d1, tx, e1, hx⟩ := h1
  obtain ⟨d2, ty, e2, hy⟩ := h2
  obtain ⟨o', hcd, hc, hr⟩ := H
  refine lt_is w A E s Q a cell i1 d1 i2 d2 r x y tx ty (Nat.lt_of_le_of_lt hu (Nat.le_of_ble_eq_true rfl)) (OldOk.get ?_) (ltS x y) ?_ h
  · intro p hp
    simp only [oldL, List.mem_cons, List.not_mem_nil, or_false] at hp
    rcases hp with rfl | rfl | rfl | rfl | rfl
    · exact e1
    · exact e2
    · exact hr _ (.head _)
    · exact hr _ (.tail _ (.head _))
    · exact hr _ (.tail _ (.tail _ (.tail _ (.tail _ (.head _)))))
  · intro s' Q' k hg hdr ho hq
    refine wpAny_call ?_
    refine use0 (d := 380) (u := 800) B (F.keeps k) X T hA hf hke hh hd hu ?_
    intro B9 X9 T9
    refine ltf_spec w mean mg mb (r.fs 2) r.c2 cell r.ct a i1 d1 i2 d2 r x y tx ty _ _ _ _ _ _ _ rfl (k _ _ (hr _ (.tail _ (.tail _ (.tail _ (.tail _ (.head _))))))) ?_ ⟨o', k _ _ hc, hcd⟩ (k _ _ e1) (k _ _ e2) (fun p hp => k _ _ (hr p hp)) hx hy B9 X9 T9 ?_
    · exact ⟨r.c2, _, _, r.q2, rfl, k _ _ (hr _ (.tail _ (.tail _ (.tail _ (.tail _ (.tail _ (.tail _ (.head _)))))))), rfl, rfl⟩
    · intro h' tk' k'
      have := hq h' tk' (fun b o e => k' _ _ (k _ _ e))
      rw [← hg, ← hdr, ← ho] at this
      exact this
end
section
-- text N61
open PySem PySem.W PyProof.Rows PySem.Calls
set_option maxHeartbeats 8000000
def nm7 (i : Nat) : Str := [Str.ofString "", Str.ofString "a", Str.ofString "b", Str.ofString "aa", Str.ofString "ab", Str.ofString "ba", Str.ofString "bb"].getD i Str.empty
def Keys (w : World) (h : Heap) (a cell : Addr) (r : KRec) (i0 i1 i2 i3 i4 i5 i6 : Addr) : Prop := KHeap w h a cell r ∧ InstAt h a i0 (nm7 0) ∧ InstAt h a i1 (nm7 1) ∧ InstAt h a i2 (nm7 2) ∧ InstAt h a i3 (nm7 3) ∧ InstAt h a i4 (nm7 4) ∧ InstAt h a i5 (nm7 5) ∧ InstAt h a i6 (nm7 6)
theorem lt_Kb {w : World} {A₀ A : Around} {base h₀ : Heap} {outer : List Env} {L : Addr} {m mg mb : Str → Option Value} {env : Env} {mean : ExcName → Option Value} {E : Value → Shared → Prop} {s : Shared} {Q : Value → Shared → Prop} {a cell i1 i2 : Addr} {r : KRec} {x y : Str} {news : List (Addr × Obj)} (b : Bool)
    (B : Below A₀ base outer h₀) (F : Fr h₀ L s.heap m) (N : News h₀ L s.heap news) (X : (Mine.heap39 w.params).In h₀) (T : Top topProg looseG mean mg mb h₀) (H : KHeap w h₀ a cell r) (h1 : InstAt h₀ a i1 x) (h2 : InstAt h₀ a i2 y) (hb : ltS x y = b)
    (h : ∀ h' tk', Fr h₀ L h' m → News h₀ L h' news → Q (.bool b) { s with heap := h', toks := tk' }) (hA : A.frames = some (env :: outer)) (hf : env.frame = some L) (hke : env.scope.kind = .function)
    (hh : A.handled = none) (hd : A.depth ≤ 380) (hu : A.units ≤ 800) :
    wpAny (model PySem.Challenge.rw_in0045_01.row.prog w) A (compareOp .Lt (.ref i1) (.ref i2)) Q E s := by
  subst hb
  exact lt_K B F X T hA hf hke hh hd hu (H.keeps F.keep) (h1.keeps F.keep) (h2.keeps F.keep) fun h' tk' k => h h' tk' (F.keeps k) (N.keeps k)
theorem lt_Kb1 {w : World} {A₀ A : Around} {base h₀ g : Heap} {outer : List Env} {L L1 : Addr} {m m1 mg mb : Str → Option Value} {env : Env} {mean : ExcName → Option Value} {E : Value → Shared → Prop} {s : Shared} {Q : Value → Shared → Prop} {a cell i1 i2 : Addr} {r : KRec} {x y : Str} {news : List (Addr × Obj)} (b : Bool)
    (B : Below A₀ base outer h₀) (F : Fr h₀ L s.heap m) (N : News h₀ L s.heap news) (X : (Mine.heap39 w.params).In h₀) (T : Top topProg looseG mean mg mb h₀) (H : KHeap w g a cell r) (h1 : InstAt g a i1 x) (h2 : InstAt g a i2 y) (G : Fr g L1 h₀ m1) (hb : ltS x y = b)
    (h : ∀ h' tk', Fr h₀ L h' m → News h₀ L h' news → Q (.bool b) { s with heap := h', toks := tk' }) (hA : A.frames = some (env :: outer)) (hf : env.frame = some L) (hke : env.scope.kind = .function)
    (hh : A.handled = none) (hd : A.depth ≤ 380) (hu : A.units ≤ 800) :
    wpAny (model PySem.Challenge.rw_in0045_01.row.prog w) A (compareOp .Lt (.ref i1) (.ref i2)) Q E s :=
  lt_Kb b B F N X T (H.keeps G.keep) (h1.keeps G.keep) (h2.keeps G.keep) hb h hA hf hke hh hd hu
theorem lt_Kb2 {w : World} {A₀ A : Around} {base h₀ g g1 : Heap} {outer : List Env} {L L1 L2 : Addr} {m m1 m2 mg mb : Str → Option Value} {env : Env} {mean : ExcName → Option Value} {E : Value → Shared → Prop} {s : Shared} {Q : Value → Shared → Prop} {a cell i1 i2 : Addr} {r : KRec} {x y : Str} {news : List (Addr × Obj)} (b : Bool)
    (B : Below A₀ base outer h₀) (F : Fr h₀ L s.heap m) (N : News h₀ L s.heap news) (X : (Mine.heap39 w.params).In h₀) (T : Top topProg looseG mean mg mb h₀) (H : KHeap w g a cell r) (h1 : InstAt g a i1 x) (h2 : InstAt g a i2 y) (G2 : Fr g1 L2 h₀ m2) (G1 : Fr g L1 g1 m1) (hb : ltS x y = b)
    (h : ∀ h' tk', Fr h₀ L h' m → News h₀ L h' news → Q (.bool b) { s with heap := h', toks := tk' }) (hA : A.frames = some (env :: outer)) (hf : env.frame = some L) (hke : env.scope.kind = .function)
    (hh : A.handled = none) (hd : A.depth ≤ 380) (hu : A.units ≤ 800) :
    wpAny (model PySem.Challenge.rw_in0045_01.row.prog w) A (compareOp .Lt (.ref i1) (.ref i2)) Q E s :=
  lt_Kb1 b B F N X T (H.keeps G1.keep) (h1.keeps G1.keep) (h2.keeps G1.keep) G2 hb h hA hf hke hh hd hu
end
section
-- text N68
open PySem PySem.W PyProof.Rows PySem.Calls
set_option maxHeartbeats 8000000
section
variable {prog : Program} {w : World} {A : Around} {E : Value → Shared → Prop} {h₀ : Heap} {L : Addr} {m : Str → Option Value} {news : List (Addr × Obj)}
def ClsAt (h : Heap) (a : Addr) : Prop := ∃ n2 bt t u, h.get? a = some (clsO a n2 bt t u)
theorem callWith_cls {s : Shared} {pos : Pos} {u : Addr} {first : List Value} {args : List (Bool × Sem Value)} {Q : Value → Shared → Prop} (hplain : args.any (·.1) = false)
    (h : wpAny (model prog w) A (evalArgs (.ref u) true args []) (fun x s₁ => ClsAt s₁.heap u ∧ wpAny (model prog w) A (call (.ref u) (first ++ x.pos) x.kw) Q E s₁) E s) : wpAny (model prog w) A (callWith pos (.ref u) first args []) Q E s := by
  unfold callWith
  refine wpAny_bind (wpAny_holding (wpAny_mono h (fun x s₁ h₁ => wpAny_bind (wpAny_standAt ?_)) fun _ _ x => x))
  obtain ⟨⟨n2, bt, t, u', ho⟩, hcall⟩ := h₁
  simp only [hplain, List.any_nil, Bool.or_false]
  refine wpAny_bind (m := keeperOf (.ref u)) ?_
  unfold keeperOf
  refine wpAny_bind (wpAny_load ho ?_)
  simp only [clsO, show (Value.type "type" != Value.type "method") = true by decide, show (Value.type "type" == Value.type "builtin_function_or_method" || Value.type "type" == Value.type "method-wrapper") = false by decide, if_true]
  refine wpAny_bind (wpAny_specialOf (T := "type") ⟨_, ho, rfl⟩ (r := some (.builtin "type.__call__")) (by rw [typeLookup_type, builtinLookup_eq_fast]; kernel_rfl) (wpAny_pure ?_))
  try simp only [beq_self_eq_true, if_true]
  exact wpAny_bind (wpAny_mono hcall (fun r s₂ hr => wpAny_bind (wpAny_holding (wpAny_point (wpAny_pure hr)))) fun _ _ x => x)
theorem clsAt_of {h : Heap} {a n2 bt : Addr} {t u : Tok} (N : News h₀ L h news) (hm : (a, clsO a n2 bt t u) ∈ news) : ClsAt h a := ⟨_, _, _, _, N.get hm⟩
theorem callWith_cls_K {s : Shared} {n2 bt : Addr} {t5 u5 : Tok} {pos : Pos} {u : Addr} {first : List Value} {env : Env} {e : Expr} {rest : List Expr} {Q : Value → Shared → Prop} (_N : News h₀ L s.heap news) (_hm : (u, clsO u n2 bt t5 u5) ∈ news)
    (h : wpAny (model prog w) A (spliced (backTo pos (starEach (e :: rest) env))) (fun vs s₁ => ClsAt s₁.heap u ∧ wpAny (model prog w) A (call (.ref u) (first ++ vs)) Q E s₁) E s)
    (he : starEach (e :: rest) env = (false, eval e env) :: starEach rest env := by rfl) (hplain : (backTo pos (starEach rest env)).any (·.1) = false := by rfl) :
    wpAny (model prog w) A (callWith pos (.ref u) first (backTo pos (starEach (e :: rest) env)) []) Q E s := by
  rw [he] at h ⊢
  refine callWith_cls (by show (false || (backTo pos (starEach rest env)).any (·.1)) = false; rw [hplain]; rfl) ?_
  exact evalArgs_plain h
end
theorem key_K {w : World} {fr : List Env} {env : Env} {E : Value → Shared → Prop} {s : Shared} {Q : Value → Shared → Prop} {h₀ : Heap} {L : Addr} {m : Str → Option Value} {news : List (Addr × Obj)} {a cell : Addr} {r : KRec} {x : Str} {tx : Tok}
    (F : Fr h₀ L s.heap m) (N : News h₀ L s.heap news) (X : (Mine.heap39 w.params).In h₀) (hr : ∀ p ∈ r.list w.params a cell, p ∈ news)
    (h : ∀ i d h' tk', Fr h₀ L h' m → News h₀ L h' ((i, instO a d x tx) :: news) → (∀ p ∈ news, @Ne Nat p.1 i) → Q (.ref i) { s with heap := h', toks := tk' }) :
    wpAny (model PySem.Challenge.rw_in0045_01.row.prog w) ((AA 320 200 fr).deeper env) (call (.ref a) [.str x tx]) Q E s := by
  refine key_is w fr env E s Q ?_ a cell r x tx (fun p hp => N.get (hr p hp)) ?_
  · intro b o e
    have e2 : (Mine.heap39 w.params).lookup 2 = some (at39 w.params 2) := by kernel_rfl
    have : b = 2 ∧ o = at39 w.params 2 := by
      have e' : (match b == (2 : Addr) with | true => some (at39 w.params 2) | false => none) = some o := e
      cases hb : b == (2 : Addr) with
      | true =>
        rw [hb] at e'
        exact ⟨by simpa using hb, (Option.some.inj e').symm⟩
      | false => rw [hb] at e'; cases e'
    obtain ⟨rfl, rfl⟩ := this
    exact F.keep _ _ (X 2 _ e2)
  · intro i d h' tk' k f e
    have ne : ∀ p ∈ news, @Ne Nat p.1 i := fun p hp q => by
      have := N.get (a := p.1) (o := p.2) hp
      have q' : p.1 = i := q
      rw [q', f] at this; cases this
    exact h i d h' tk' (F.keeps k) (news_cons F N k f e) ne
theorem key_K2 {w : World} {fr : List Env} {env : Env} {E : Value → Shared → Prop} {s : Shared} {Q : Value → Shared → Prop} {h₀ : Heap} {L : Addr} {m : Str → Option Value} {news : List (Addr × Obj)} {a cell : Addr} {x : Str} {tx : Tok} (r : KRec)
    (F : Fr h₀ L s.heap m) (N : News h₀ L s.heap news) (X : (Mine.heap39 w.params).In h₀) (m1 : (a, clsO a r.n2 r.bt r.t0 r.t1) ∈ news) (m2 : (r.n2, ns2O r.hs r.ts r.fs r.m r.h1 r.h2 (r.t2 + 1) (r.t2 + 2)) ∈ news) (m3 : (r.m, mO a r.t2) ∈ news)
    (m4 : (r.fs 1, fObj (kDef w.params 2) (Str.ofString "__init__") initQ [] r.c1 .none) ∈ news) (m5 : (r.fs 2, fObj (kDef w.params 3) (Str.ofString "__lt__") ltQ [(Str.ofString "mycmp", cell)] r.c2 r.ct) ∈ news) (m6 : (r.c1, codeV r.v1 initQ r.q1) ∈ news) (m7 : (r.c2, codeV r.v2 ltQ r.q2) ∈ news)
    (h : ∀ i d h' tk', Fr h₀ L h' m → News h₀ L h' ((i, instO a d x tx) :: news) → (∀ p ∈ news, @Ne Nat p.1 i) → Q (.ref i) { s with heap := h', toks := tk' }) :
    wpAny (model PySem.Challenge.rw_in0045_01.row.prog w) ((AA 320 200 fr).deeper env) (call (.ref a) [.str x tx]) Q E s := by
  refine key_K (cell := cell) (r := r) F N X (fun p hp => ?_) h
  simp only [KRec.list, List.mem_cons, List.not_mem_nil, or_false] at hp
  rcases hp with rfl | rfl | rfl | rfl | rfl | rfl | rfl <;> assumption
end
section
-- text N69
open PySem PySem.W PyProof.Rows PySem.Calls
set_option maxHeartbeats 8000000
theorem News.sub {h₀ h : Heap} {L : Addr} {n1 n2 : List (Addr × Obj)} (N : News h₀ L h n1) (x : ∀ p ∈ n2, p ∈ n1) : News h₀ L h n2 := fun p hp => N p (x p hp)
theorem ne2 {L : Addr} {o1 o2 : Obj} (l : @LT.lt Nat instLTNat 85 L) : ∀ p ∈ [((L + 1 + 1 : Addr), o1), (L + 1, o2)], p.1 ≠ 85 := by
  intro p hp
  rcases List.mem_cons.mp hp with rfl | hp
  · exact Nat.ne_of_gt (Nat.lt_succ_of_lt (Nat.lt_succ_of_lt l))
  · obtain rfl := List.mem_singleton.mp hp
    exact Nat.ne_of_gt (Nat.lt_succ_of_lt l)
theorem after85 {h₀ h h' : Heap} {L : Addr} {m : Str → Option Value} {rest ex : List (Addr × Obj)} {o : Obj} (F : Fr h₀ L h m) (N : News h₀ L h rest) (N85 : News h₀ L h [(85, o)]) (hr : ∀ p ∈ rest, p.1 ≠ 85)
    (k : ∀ b o, (hideAll h [85]).get? b = some o → h'.get? b = some o) (hex : ∀ p ∈ ex, h'.get? p.1 = some p.2) (hex2 : ∀ p ∈ ex, (hideAll h [85]).get? p.1 = none) : Fr h₀ L h' m ∧ News h₀ L h' ex ∧ News h₀ L h' rest := by
  have hL : L ≠ 85 := fun x => (N85 _ (.head _)).2.1 x.symm
  have up : ∀ b o, b ≠ 85 → h.get? b = some o → h'.get? b = some o := fun b o hb e => k b o (hideAll_get _ e fun hm => hb (List.mem_singleton.mp hm))
  have old : ∀ b o, h₀.get? b = some o → b ≠ 85 := fun b o e hb => by
    have := (N85 _ (.head _)).2.2
    rw [hb] at e
    rw [e] at this; cases this
  refine ⟨⟨?_, fun b o e => up b o (old b o e) (F.keep b o e), F.above⟩, fun p hp => ?_, fun p hp => ?_⟩
  · obtain ⟨oL, a1, a2, hL', a3⟩ := F.ns
    exact ⟨oL, a1, a2, up _ _ hL hL', a3⟩
  · have e2 := hex2 p hp
    refine ⟨hex p hp, fun x => ?_, ?_⟩
    · obtain ⟨oL, _, _, hL', _⟩ := F.ns
      rw [x, hideAll_get _ hL' fun hm => hL (List.mem_singleton.mp hm)] at e2; cases e2
    · cases q : h₀.get? p.1 with
      | none => rfl
      | some o =>
        rw [hideAll_get _ (F.keep _ _ q) fun hm => old _ _ q (List.mem_singleton.mp hm)] at e2; cases e2
  · have n := N p hp
    exact ⟨up _ _ (hr p hp) n.1, n.2⟩
/-- no entry of the tail stands at d -/
def Apart (kr : List (Addr × Obj)) (d : Addr) : Prop := ∀ p ∈ kr, p.1 ≠ d
theorem Apart.use {kr : List (Addr × Obj)} {d : Addr} (h : Apart kr d) : ∀ p ∈ kr, p.1 ≠ d := h
theorem Apart.cons {kr : List (Addr × Obj)} {a d : Addr} {o : Obj} (h : Apart kr d) (n : a ≠ d) : Apart ((a, o) :: kr) d := fun p hp => by
  rcases List.mem_cons.mp hp with rfl | hp
  · exact n
  · exact h p hp
theorem apart_lt {kr : List (Addr × Obj)} {d : Addr} (h : AllLt d kr) : Apart kr d := by
  induction kr with
  | nil => exact fun _ h => nomatch h
  | cons p r ih => exact Apart.cons (ih h.2) (Nat.ne_of_lt h.1)
/-- the class's objects stand in the tail -/
def KSub (w : World) (a cell : Addr) (r : KRec) (kr : List (Addr × Obj)) : Prop := ((∃ o', o'.data = .cell (some (.ref 130)) ∧ (cell, o') ∈ kr) ∧ ∃ vs, (85, tabObj vs) ∈ kr) ∧ ∀ p ∈ r.list w.params a cell, p ∈ kr
theorem KSub.more {w : World} {a cell : Addr} {r : KRec} {kr kr' : List (Addr × Obj)} (h : KSub w a cell r kr) (k : ∀ p ∈ kr, p ∈ kr') : KSub w a cell r kr' :=
  let ⟨⟨⟨o, a1, a2⟩, vs, a3⟩, b⟩ := h; ⟨⟨⟨o, a1, k _ a2⟩, vs, k _ a3⟩, fun p hp => k _ (b p hp)⟩
theorem KSub.cls {w : World} {a cell : Addr} {r : KRec} {kr : List (Addr × Obj)} (h : KSub w a cell r kr) : (a, clsO a r.n2 r.bt r.t0 r.t1) ∈ kr := h.2 _ (.head _)
theorem KSub.heap {w : World} {h₀ h : Heap} {L a cell : Addr} {r : KRec} {kr : List (Addr × Obj)} (x : KSub w a cell r kr) (N : News h₀ L h kr) : KHeap w h a cell r :=
  let ⟨⟨⟨o, a1, a2⟩, _⟩, b⟩ := x; ⟨o, a1, N.get a2, fun p hp => (N p (b p hp)).1⟩
theorem callWith_KS {prog : Program} {w : World} {A : Around} {E : Value → Shared → Prop} {h₀ : Heap} {L : Addr} {s : Shared} {pos : Pos} {u cell : Addr} {r : KRec} {kr news : List (Addr × Obj)} {first : List Value} {env : Env} {e : Expr} {rest : List Expr} {Q : Value → Shared → Prop}
    (_H : KSub w u cell r kr) (_N : News h₀ L s.heap news)
    (h : wpAny (model prog w) A (spliced (backTo pos (starEach (e :: rest) env))) (fun vs s₁ => ClsAt s₁.heap u ∧ wpAny (model prog w) A (call (.ref u) (first ++ vs)) Q E s₁) E s)
    (he : starEach (e :: rest) env = (false, eval e env) :: starEach rest env := by rfl) (hplain : (backTo pos (starEach rest env)).any (·.1) = false := by rfl) :
    wpAny (model prog w) A (callWith pos (.ref u) first (backTo pos (starEach (e :: rest) env)) []) Q E s := by
  rw [he] at h ⊢
  refine callWith_cls (by show (false || (backTo pos (starEach rest env)).any (·.1)) = false; rw [hplain]; rfl) ?_
  exact evalArgs_plain h
theorem KSub.clsAt {w : World} {h₀ h : Heap} {L a cell : Addr} {r : KRec} {kr news : List (Addr × Obj)} (x : KSub w a cell r kr) (N : News h₀ L h news) (k : ∀ p ∈ kr, p ∈ news) : ClsAt h a := ⟨_, _, _, _, N.get (k _ x.cls)⟩
theorem key_KS {w : World} {fr : List Env} {env : Env} {E : Value → Shared → Prop} {s : Shared} {Q : Value → Shared → Prop} {h₀ : Heap} {L : Addr} {m : Str → Option Value} {news kr : List (Addr × Obj)} {a cell : Addr} {r : KRec} {x : Str} {tx : Tok}
    (H : KSub w a cell r kr) (F : Fr h₀ L s.heap m) (N : News h₀ L s.heap news) (X : (Mine.heap39 w.params).In h₀) (hr : ∀ p ∈ kr, p ∈ news)
    (h : ∀ i d h' tk', Fr h₀ L h' m → News h₀ L h' ((i, instO a d x tx) :: news) → Apart news i → Q (.ref i) { s with heap := h', toks := tk' }) :
    wpAny (model PySem.Challenge.rw_in0045_01.row.prog w) ((AA 320 200 fr).deeper env) (call (.ref a) [.str x tx]) Q E s :=
  key_K (cell := cell) (r := r) F N X (fun p hp => hr _ (H.2 p hp)) h
theorem news_app {h₀ h : Heap} {L : Addr} {n1 n2 : List (Addr × Obj)} (a : News h₀ L h n1) (b : News h₀ L h n2) : News h₀ L h (n1 ++ n2) := fun p hp => by
  rcases List.mem_append.mp hp with hp | hp
  · exact a p hp
  · exact b p hp
section
open PyProof.Rows.LCg
variable {prog : Program} {w : World} {A : Around} {s : Shared} {h₀ : Heap} {L : Addr} {m : Str → Option Value} {env : Env}
theorem rest_ind {elt : Expr} {x : Str} {scope : Scope} {cl : List (Str × Addr)} {S : List (Addr × Obj) → Prop} {P : Nat → Value → Prop} {Fin : List Value → List (Addr × Obj) → Prop} (n : Nat) (J : Nat → List Value → List (Addr × Obj) → Prop)
    (turn : ∀ i ys news v I oI C oC D m₂ h tk (E' : Value → Shared → Prop), i < n → J i ys news → P i v → NsObj oC m₂ → m₂ x = some v → Fr h₀ L h m → News h₀ L h ((I, oI) :: (C, oC) :: (D, LCg.lst ys) :: news) → Off3 I C D news → ((@Ne Nat I C) ∧ (@Ne Nat I D) ∧ (@Ne Nat C D)) →
      wpAny (model prog w) A (eval elt (compEnvC scope cl C env)) (CompEnd h₀ L m { s with heap := h, toks := tk } I oI C oC D (LCg.lst ys) S (fun y news' => J (i + 1) (ys ++ [y]) news')) E' { s with heap := h, toks := tk })
    (fin : ∀ ys news, J n ys news → Fin ys news) : ∀ k i ys news, k + i = n → J i ys news → CompRest prog w A h₀ L m env elt x scope cl s S P Fin k i ys news := by
  intro k
  induction k with
  | zero =>
    intro i ys news hi hJ
    obtain rfl : i = n := by omega
    exact CompRest.zero (fin _ _ hJ)
  | succ k ih =>
    intro i ys news hi hJ
    refine CompRest.succ fun v I oI C oC D m₂ h tk E' hP hC hx F N off ne => ?_
    exact wpAny_mono (turn i ys news v I oI C oC D m₂ h tk E' (by omega) hJ hP hC hx F N off ne) (fun y s₂ he => compEnd_mono he fun v n hn => ih (i + 1) _ n (by omega) hn) fun _ _ e => e
end
/-- the pairs made so far: values ys, instances insts -/
structure Pairs (aK : Addr) (kr : List (Addr × Obj)) (ys : List Value) (insts : List Addr) : Prop where
  len : ys.length = insts.length
  at' : ∀ k i, insts[k]? = some i → ∃ l d t t' n, ys[k]? = some (.ref l) ∧ (l, W.listOf #[.ref i, .str (nm7 k) t] n) ∈ kr ∧ (i, instO aK d (nm7 k) t') ∈ kr
  nodup : insts.Nodup
theorem Pairs.nil {aK : Addr} {kr : List (Addr × Obj)} : Pairs aK kr [] [] := ⟨rfl, fun _ _ h => by simp at h, List.nodup_nil⟩
theorem Pairs.snoc {aK : Addr} {kr kr' : List (Addr × Obj)} {ys : List Value} {insts : List Addr} {l i d : Addr} {t t' : Tok} {n : Nat} (P : Pairs aK kr ys insts) (k : ∀ p ∈ kr, p ∈ kr') (h1 : (l, W.listOf #[.ref i, .str (nm7 insts.length) t] n) ∈ kr')
    (h2 : (i, instO aK d (nm7 insts.length) t') ∈ kr') (ha : Apart kr i) : Pairs aK kr' (ys ++ [.ref l]) (insts ++ [i]) := by
  refine ⟨by simp [P.len], fun j a e => ?_, ?_⟩
  · rcases Nat.lt_trichotomy j insts.length with hj | hj | hj
    · rw [List.getElem?_append_left hj] at e
      obtain ⟨l, d, t, t', n, a1, a2, a3⟩ := P.at' j a e
      exact ⟨l, d, t, t', n, by rw [List.getElem?_append_left (by rw [P.len]; exact hj)]; exact a1, k _ a2, k _ a3⟩
    · subst hj
      rw [List.getElem?_concat_length] at e
      obtain rfl := Option.some.inj e
      exact ⟨l, d, t, t', n, by rw [← P.len, List.getElem?_concat_length], h1, h2⟩
    · rw [List.getElem?_eq_none (by rw [List.length_append, List.length_singleton]; omega)] at e
      cases e
  · refine List.nodup_append.mpr ⟨P.nodup, by simp, fun a ha' b hb e => ?_⟩
    obtain rfl := List.mem_singleton.mp hb
    subst e
    obtain ⟨j, hj⟩ := List.getElem?_of_mem ha'
    obtain ⟨_, d, _, t', _, _, _, a3⟩ := P.at' j _ hj
    exact ha _ a3 rfl
theorem nm7_item {t0 t1 t2 t3 t4 t5 t6 : Tok} {i : Nat} {v : Value} (h : (#[.str (nm7 0) t0, .str (nm7 1) t1, .str (nm7 2) t2, .str (nm7 3) t3, .str (nm7 4) t4, .str (nm7 5) t5, .str (nm7 6) t6] : Array Value)[i]? = some v) : ∃ t, v = .str (nm7 i) t := by
  match i, h with
  | 0, h => exact ⟨_, (Option.some.inj h).symm⟩
  | 1, h => exact ⟨_, (Option.some.inj h).symm⟩
  | 2, h => exact ⟨_, (Option.some.inj h).symm⟩
  | 3, h => exact ⟨_, (Option.some.inj h).symm⟩
  | 4, h => exact ⟨_, (Option.some.inj h).symm⟩
  | 5, h => exact ⟨_, (Option.some.inj h).symm⟩
  | 6, h => exact ⟨_, (Option.some.inj h).symm⟩
  | i + 7, h => exact absurd h (by simp)
theorem away2 {h₀ h : Heap} {L c1 c2 : Addr} {o1 o2 o : Obj} {q : Addr} (N : News h₀ L h [(c1, o1), (c2, o2), (85, o)]) (n : ∀ p ∈ [(c1, o1), (c2, o2)], p.1 ≠ 85) (e : (hideAll h [85]).get? q = none) : @Ne Nat q c1 ∧ @Ne Nat q c2 := by
  refine ⟨fun x => ?_, fun x => ?_⟩
  · have := hideAll_get [85] (N _ (.head _)).1 (fun hm => n _ (.head _) (List.mem_singleton.mp hm))
    rw [x] at e; rw [e] at this; cases this
  · have := hideAll_get [85] (N _ (.tail _ (.head _))).1 (fun hm => n _ (.tail _ (.head _)) (List.mem_singleton.mp hm))
    rw [x] at e; rw [e] at this; cases this
theorem memOf {α : Type} {a : α} {l : List α} (h : a ∈ l) : List.Mem a l := h
end
section
-- text N70
open PySem PySem.W PyProof.Rows PySem.Calls
set_option maxHeartbeats 8000000
noncomputable def fitsG : Nat → List Nat → List Nat → Bool
  | 0, _, _ => false
  | _ + 1, [], ns => ns.isEmpty
  | k + 1, c :: cs, [] => if c == 42 then fitsG k cs [] else false
  | k + 1, c :: cs, n :: ns => if c == 42 then fitsG k cs (n :: ns) || fitsG k (c :: cs) ns else (c == 63 || c == n) && fitsG k cs ns
theorem fitsG_is : ∀ (k : Nat) (cs ns : List Nat), cs.length + ns.length < k → fitsG k cs ns = fitsF cs ns
  | 0, _, _, h => absurd h (by omega)
  | k + 1, [], ns, _ => by simp [fitsG, fitsF]
  | k + 1, c :: cs, [], h => by
    have ih := fitsG_is k cs [] (by simp at h ⊢; omega)
    simp [fitsG, fitsF, ih]
  | k + 1, c :: cs, n :: ns, h => by
    have h1 := fitsG_is k cs (n :: ns) (by simp at h ⊢; omega)
    have h2 := fitsG_is k (c :: cs) ns (by simp at h ⊢; omega)
    have h3 := fitsG_is k cs ns (by simp at h ⊢; omega)
    simp [fitsG, fitsF, h1, h2, h3]
def sig4 : List Nat := [97, 98, 63, 42]
theorem table_all : (sig4.all fun c0 => sig4.all fun c1 => sig4.all fun c2 => (List.range 7).all fun i => takesF (trans [c0, c1, c2]) (nm7 i) == fitsG 10 [c0, c1, c2] (nm7 i).cps.toList) = true := by decide +kernel
end
section
-- text N71
open PySem PySem.W PyProof.Rows PySem.Calls
set_option maxHeartbeats 8000000
theorem join3 {a b c : Nat} (ha : a ∈ sig4) (hb : b ∈ sig4) (hc : c ∈ sig4) : Txt.join (Str.ofString "") [⟨#[a]⟩, ⟨#[b]⟩, ⟨#[c]⟩] = tx [a, b, c] := by
  simp only [sig4, List.mem_cons, List.not_mem_nil, or_false] at ha hb hc
  rcases ha with rfl | rfl | rfl | rfl <;> rcases hb with rfl | rfl | rfl | rfl <;> rcases hc with rfl | rfl | rfl | rfl <;> decide +kernel
theorem item5 (e : Int) : ∃ c, c ∈ sig4 ∧ Txt.item (Str.ofString "ab?**") (e.fmod 5) = ⟨#[c]⟩ := by
  have h1 : 0 ≤ e.fmod 5 := Int.fmod_nonneg_of_pos e (by decide)
  have h2 : e.fmod 5 < 5 := Int.fmod_lt_of_pos e (by decide)
  obtain h | h | h | h | h : e.fmod 5 = 0 ∨ e.fmod 5 = 1 ∨ e.fmod 5 = 2 ∨ e.fmod 5 = 3 ∨ e.fmod 5 = 4 := by omega
  all_goals rw [h]
  · exact ⟨97, by decide, by decide +kernel⟩
  · exact ⟨98, by decide, by decide +kernel⟩
  · exact ⟨63, by decide, by decide +kernel⟩
  · exact ⟨42, by decide, by decide +kernel⟩
  · exact ⟨42, by decide, by decide +kernel⟩
theorem pat_is (x : Int) : ∃ a b c, a ∈ sig4 ∧ b ∈ sig4 ∧ c ∈ sig4 ∧ pat x = tx [a, b, c] := by
  obtain ⟨a, ha, ea⟩ := item5 ((x.fdiv 2).fdiv (5 ^ ((0 : Int) + ((0 : Nat) : Int)).toNat))
  obtain ⟨b, hb, eb⟩ := item5 ((x.fdiv 2).fdiv (5 ^ ((0 : Int) + ((0 + 1 : Nat) : Int)).toNat))
  obtain ⟨c, hc, ec⟩ := item5 ((x.fdiv 2).fdiv (5 ^ ((0 : Int) + ((0 + 1 + 1 : Nat) : Int)).toNat))
  refine ⟨a, b, c, ha, hb, hc, ?_⟩
  unfold pat
  rw [ea, eb, ec]
  exact join3 ha hb hc
theorem takes_fits (x : Int) (i : Nat) (hi : i < 7) : takesF (trans (pat x).cps.toList) (nm7 i) = fitsF (pat x).cps.toList (nm7 i).cps.toList := by
  obtain ⟨a, b, c, ha, hb, hc, e⟩ := pat_is x
  have t := table_all
  simp only [List.all_eq_true] at t
  have t1 := t a ha b hb c hc i (by simpa using hi)
  have e2 : (pat x).cps.toList = [a, b, c] := by rw [e]
  rw [e2]
  have t2 : takesF (trans [a, b, c]) (nm7 i) = fitsG 10 [a, b, c] (nm7 i).cps.toList := by simpa using t1
  rw [t2]
  refine fitsG_is 10 _ _ ?_
  have : (nm7 i).cps.toList.length ≤ 2 := by
    obtain h | h | h | h | h | h | h : i = 0 ∨ i = 1 ∨ i = 2 ∨ i = 3 ∨ i = 4 ∨ i = 5 ∨ i = 6 := lt7 (by first | assumption | omega)
    all_goals (subst h; decide +kernel)
  show 3 + _ < 10
  omega
def ruleOf (x : Int) : Int × List Part := (x.fmod 2, trans (pat x).cps.toList)
def firstOf (ns : List Int) (y : Str) : Int := ((ns.filter fun x => fitsF (pat x).cps.toList y.cps.toList).map (fun x : Int => x.fmod 2) ++ [(2 : Int)]).headD 2
theorem vof_first (ns : List Int) (i : Nat) (hi : i < 7) : Vof (ns.map ruleOf).reverse (nm7 i) ns.length = firstOf ns (nm7 i) := by
  have hl : ns.length = (ns.map ruleOf).reverse.length := by simp
  unfold Vof firstOf
  rw [hl, List.take_length]
  rw [List.foldl_reverse]
  clear hl
  induction ns with
  | nil => rfl
  | cons x ns ih =>
    simp only [List.map_cons, List.foldr_cons, List.filter_cons]
    rw [show (ruleOf x).2 = trans (pat x).cps.toList from rfl, show (ruleOf x).1 = x.fmod 2 from rfl, takes_fits x i hi]
    split
    · simp
    · exact ih
end
section
-- text N76
open PySem PySem.W PyProof.Rows PySem.Calls PyProof.Rows.LCg
set_option maxHeartbeats 8000000
/-- the tail stands apart from each of these -/
def Away (cs : List Addr) (kr : List (Addr × Obj)) : Prop := ∀ c ∈ cs, Apart kr c
theorem Away.use {cs : List Addr} {kr : List (Addr × Obj)} {c : Addr} (h : Away cs kr) (m : c ∈ cs) : ∀ p ∈ kr, p.1 ≠ c := h c m
theorem Away.cons {cs : List Addr} {kr : List (Addr × Obj)} {a : Addr} {o : Obj} (h : Away cs kr) (n : ∀ c ∈ cs, a ≠ c) : Away cs ((a, o) :: kr) := fun c hc => (h c hc).cons (n c hc)
theorem Away.nil {cs : List Addr} : Away cs [] := fun _ _ _ h => nomatch h
inductive RuleIn (kr : List (Addr × Obj)) (v : Value) (r : Int × List Part) : Prop
  | mk (a : Addr) (t : Tok) (lp : Addr) (vs : Array Value) (n n2 : Nat) (e : v = .ref a) (m1 : (a, W.listOf #[.int r.1 t, .ref lp] n) ∈ kr) (m2 : (lp, lobj vs n2) ∈ kr) (q : PAre vs.toList r.2) (l : r.2.length ≤ 8) : RuleIn kr v r
inductive RulesIn (kr : List (Addr × Obj)) : List Value → List (Int × List Part) → Prop where
  | nil : RulesIn kr [] []
  | cons {v : Value} {r : Int × List Part} {vs : List Value} {rs : List (Int × List Part)} : RuleIn kr v r → RulesIn kr vs rs → RulesIn kr (v :: vs) (r :: rs)
theorem RuleIn.more {kr kr' : List (Addr × Obj)} {v : Value} {r : Int × List Part} (x : RuleIn kr v r) (k : ∀ p ∈ kr, p ∈ kr') : RuleIn kr' v r :=
  let ⟨a, t, lp, vs, n, n2, e, m1, m2, q, l⟩ := x; ⟨a, t, lp, vs, n, n2, e, k _ m1, k _ m2, q, l⟩
theorem RulesIn.more {kr kr' : List (Addr × Obj)} {vs : List Value} {rs : List (Int × List Part)} (x : RulesIn kr vs rs) (k : ∀ p ∈ kr, p ∈ kr') : RulesIn kr' vs rs := by
  induction x with
  | nil => exact .nil
  | cons a _ ih => exact .cons (a.more k) ih
theorem RulesIn.snoc {kr : List (Addr × Obj)} {vs : List Value} {rs : List (Int × List Part)} {v : Value} {r : Int × List Part} (x : RulesIn kr vs rs) (y : RuleIn kr v r) : RulesIn kr (vs ++ [v]) (rs ++ [r]) := by
  induction x with
  | nil => exact .cons y .nil
  | cons a _ ih => exact .cons a ih
theorem RulesIn.length {kr : List (Addr × Obj)} {vs : List Value} {rs : List (Int × List Part)} (x : RulesIn kr vs rs) : vs.length = rs.length := by
  induction x with
  | nil => rfl
  | cons _ _ ih => simp [ih]
theorem RulesIn.are {kr : List (Addr × Obj)} {vs : List Value} {rs : List (Int × List Part)} {h : Heap} (x : RulesIn kr vs rs) (k : ∀ p ∈ kr, h.get? p.1 = some p.2) : RulesAre h vs rs := by
  induction x with
  | nil => exact .nil
  | cons a _ ih =>
    obtain ⟨a, t, lp, vs, n, n2, e, m1, m2, q, l⟩ := a
    refine .cons ⟨a, t, lp, vs.toList, e, ⟨_, k _ m1, rfl, _, rfl⟩, ⟨_, k _ m2, rfl, n2, ?_⟩, q, l⟩ ih
    rfl
theorem take_map_succ {α β : Type} {f : α → β} {xs : List α} {i : Nat} {x : α} (h : xs[i]? = some x) : (xs.take (i + 1)).map f = (xs.take i).map f ++ [f x] := by
  rw [List.take_add_one, h]; simp
theorem news_ne {h₀ h : Heap} {L a : Addr} {news : List (Addr × Obj)} (N : News h₀ L h news) (f : h.get? a = none) : Apart news a := fun p hp q => by
  have := (N p hp).1
  have q' : p.1 = a := q
  rw [q', f] at this; cases this
theorem off3_more {I C D : Addr} {n1 kr : List (Addr × Obj)} {ex : List (Addr × Obj)} (off : Off3 I C D (n1 ++ kr)) (hx : ∀ p ∈ ex, p.1 ≠ I ∧ p.1 ≠ C ∧ p.1 ≠ D) : Off3 I C D (n1 ++ (ex ++ kr)) := by
  have om := off.mem
  refine LCg.Off3.of fun p hp => ?_
  rcases List.mem_append.mp hp with hp | hp
  · exact om p (List.mem_append_left _ hp)
  · rcases List.mem_append.mp hp with hp | hp
    · exact hx p hp
    · exact om p (List.mem_append_right _ hp)
end
section
-- text C7
open PySem PySem.W PyProof.Rows PySem.Calls
set_option maxHeartbeats 8000000
theorem rows_C7 : True := by
  k_with_none
  k_with "mine sides0" => ((case k3 => k_asm); (case k5 => k_asm); (case k6 => k_is); (case k7 => k_is); (case k8 => exact Nat.le_of_ble_eq_true rfl); (case k9 => first | exact BindsTo.of_eq rfl | exact binds_K (by k_in) rfl (by k_is) rfl rfl rfl); (case c5 => decide); (case kB => exact locs rfl); (case c2 => exact rfl); (case c3 => exact rfl); (case c4 => exact rfl))
  k_with "mine sidesC" => ((case k3 => k_asm); (case k5 => k_asm); (case k6 => k_is); (case k7 => k_is); (case k8 => exact Nat.le_of_ble_eq_true rfl); (case k9 => first | exact BindsTo.of_eq rfl | exact binds_K (by k_in) rfl (by k_is) rfl rfl rfl); (case kB => exact rfl); (case kD => decide +kernel); (case c2 => exact rfl); (case c3 => exact rfl); (case c4 => exact rfl))
  k_with "mine enter0" => ((refine' enterS (by k_asm) (by k_asm) (by k_is) (by k_is) (by exact Nat.le_of_ble_eq_true rfl) (by first | exact BindsTo.of_eq rfl | exact binds_K (by k_in) rfl (by k_is) rfl rfl rfl) (by exact locs rfl) ?_ (by exact rfl) (by exact rfl) (by exact rfl) (by decide); k_whole; intro L' h' F' N'); (try (revert L' h' F' N'; intros)))
  k_with "mine enterC" => ((refine' enterSC (by k_asm) (by k_asm) (by k_is) (by k_is) (by exact Nat.le_of_ble_eq_true rfl) (by first | exact BindsTo.of_eq rfl | exact binds_K (by k_in) rfl (by k_is) rfl rfl rfl) (by exact rfl) (by decide +kernel) ?_ (by exact rfl) (by exact rfl) (by exact rfl); k_whole; intro L' h' tk' cells' F' N' Y'; k_cells Y'; (try simp only [List.cons_append, List.nil_append, List.append_nil] at N')); (try (revert L' h' tk' cells' F' N' Y'; intros)))
  k_with "eval ListComp" => (k_here; lcf_look; k_dflt (refine LCg.ListComp_U (F₀ := by k_asm) (by with_unfolding_all rfl) (by decide) (by rfl) (by decide) (by rfl) ?_); k_dflt lcg_toSrc)
  k_with "CompSrc" => (k_here; k_dflt (first | (refine LCg.CompSrc.ledger (by rfl) (by k_asm) (by k_asm) (by k_mem) (by first | size_fits | exact Nat.le_of_ble_eq_true rfl) ?_; intro g'; lcg_lit) | (refine LCg.CompSrc.base (by rfl) (by k_asm) (by k_asm) (by assumption) (by first | size_fits | exact Nat.le_of_ble_eq_true rfl) ?_; intro g'; lcg_lit) | (refine LCg.CompSrc.range (by rfl) (by k_asm) (by k_asm) (by assumption) (by first | decide | rfl) (by first | rfl | decide) (by first | size_fits | exact Nat.le_of_ble_eq_true rfl) ?_; intro g'; lcg_lit)))
  k_with "getMethod str" => ((with_reducible show wpAny _ _ (getMethod (Value.str _ _) (PySem.Str.ofString "translate") _) _ _ _); refine GM.of _ (typeIs_str _ _ _) F.slot_str_translate F.type_str_translate GM.noRef ?_)
  k_with "call builtin:str.translate" => ((k_here; k_dflt (refine' translate_K (by k_asm) (by k_asm) (by k_asm) (by k_is) (by decide +kernel) (by assumption) (by rfl) (by rfl) (by rename _ ∨ _ => hn9; rcases hn9 with e | e <;> (rw [e]; decide +kernel)) ?_; k_whole); intro t9 h9 tk9 F9 N9); (try (revert t9 h9 tk9 F9 N9; intros)))
  k_with "getAttr ref" => ((k_here; (with_reducible show wpAny _ _ (getAttr (Value.ref _) (PySem.Str.ofString "append") _) _ _ _); k_dflt (refine' getAttr_append_K (by k_asm) (by k_asm) (by k_mem) ?_; k_whole); intro u' h' tk' F' N' l1; (try k_lt l1); (try k_sweep)); (try (revert u' h' tk' F' N' l1; intros)))
  k_with "callWith ref" => (k_here; (with_reducible show wpAny _ _ (callWith _ (Value.ref _) _ (backTo _ (starEach (_ :: _) _)) []) _ _ _); k_dflt (refine' callWith_bnd_K (by k_asm) (by k_mem) ?_; k_whole))
  k_with "And" => ((with_reducible show BndAt _ _ _ _ ∧ _); k_dflt (refine ⟨bndAt_of (by k_asm) (by k_mem), ?_⟩); (try dsimp only [List.nil_append, List.cons_append]))
  k_with "call ref" => ((k_here; k_dflt (refine' call_bnd_append_K (by k_asm) (by k_asm) (by k_mem) (by k_updF) (by first | assumption | size_fits | exact Nat.le_of_ble_eq_true rfl) ?_; k_whole); intro h' F' N'; (try dsimp only at N'); (try k_sweep)); (try (revert h' F' N'; intros)))
  k_with "exec While Compare cons nil" => (k_here; (with_reducible show wpAny _ _ (exec (Stmt.While _ _ _ _) _) _ _ _); refine Stop.go ?_)
  k_with "call builtin:len" => ((k_here; (with_reducible show wpAny _ _ (call (Value.builtin "len") [Value.str (Str.mk _) _]) _ _ _); (first | refine len_known 3 rfl rfl ?_ | refine len_known 2 rfl rfl ?_ | refine len_known 1 rfl rfl ?_ | refine len_known 0 rfl rfl ?_); intro t9 k9); (try (revert t9 k9; intros)))
  k_with "subscriptTail Name Name str int" => ((k_here; (with_reducible show wpAny _ _ (subscriptTail _ _ (Value.str _ _) (Value.int _ _)) _ _ _); k_dflt (refine' item_at (by assumption) (by omega) ?_; k_whole); intro t9 k9); (try (revert t9 k9; intros)))
  k_with "subscriptTail" => (k_here; (with_reducible show wpAny _ _ (subscriptTail _ _ (Value.ref _) (Value.int (-1) _)) _ _ _); k_dflt (refine' item_last (by k_asm) (by k_mem) (by omega) ?_; k_whole))
  k_with "truthy ref" => ((k_here; (with_reducible show wpAny _ _ (truthy (Value.ref _)) _ _ _); k_dflt (first | (refine' truthy_known true (by k_asm) (by k_mem) (by (first | assumption | exact Nat.le_of_ble_eq_true rfl | (simp only [Array.size_push]; omega))) (by (first | rfl | (simp; done))) ?_; k_whole) | (refine' truthy_known false (by k_asm) (by k_mem) (by (first | assumption | exact Nat.le_of_ble_eq_true rfl)) (by rfl) ?_; k_whole)); intro k9); (try (revert k9; intros)))
  k_with "ite" => (k_closed; k_dflt (first | refine ite_pos (by decide +kernel) ?_ | refine ite_neg (by decide +kernel) ?_))
  k_with "exec For Name Call cons nil" => (k_here; (with_reducible show wpAny _ _ (exec (Stmt.For _ _ _ _ _) _) _ _ _); refine Stop.go ?_)
  k_with "pyIter ref" => (k_here; (with_reducible show wpAny _ _ (pyIter _) (fun _ _ => LoopAtV _ _ _ _ _ _ _ _ _ _ _) _ _); refine Stop.go ?_)
  k_with "call builtin:len" => ((k_here; (with_reducible show wpAny _ _ (call (Value.builtin "len") [Value.ref _]) _ _ _); k_dflt (refine' len_list_is (by first | assumption | exact Fr.lst (by assumption) (by assumption)) (by assumption) (by omega) ?_; k_whole); intro t9 k9); (try (revert t9 k9; intros)))
  k_with "compareOp In int ref" => (k_here; k_dflt (refine' in_list_ints (by is_list) (by assumption) ?_; k_whole))
  k_with "subscriptTail Name BinOp ref int" => (k_here; k_dflt (refine' item_pred (by is_list) (by assumption) (by omega) ?_; k_whole))
  k_with "binaryOp Add ref ref" => ((k_here; k_dflt (refine' add_ints_K (by k_asm) (by k_asm) (by k_mem) (by k_mem) (by assumption) (by omega) ?_; k_whole); intro D' h' ws' F' N' hI'); (try (revert D' h' ws' F' N' hI'; intros)))
  k_with "exec Assign cons ListComp" => (k_here; lct_look; k_dflt (refine LCt.Assign_ListComp_T (F₀ := by k_asm) (by rfl) (by with_unfolding_all rfl) (by with_unfolding_all rfl) (by decide) (by rfl) (by decide) (by rfl) (by rfl) (by rfl) ?_); k_dflt lct_toSrc)
  k_with "CompSrcT" => (k_here; refine Stop.go ?_)
  k_with "CompEnd" => (k_here; refine Stop.go ?_)
  k_with "subscriptTail Name Name ref int" => (k_here; k_dflt (refine' item_nat_list (by is_list) (by assumption) (by omega) ?_; k_whole))
  k_with "compareOp In none ref" => (k_here; k_dflt (refine' in_disp (by is_list) (by assumption) ?_; k_whole))
  k_with "compareOp In str ref" => (k_here; k_dflt (refine' in_disp (by is_list) (by assumption) ?_; k_whole))
  k_with "mine use80" => (refine wpAny_call ?_; (refine' use0 (d := 380) (u := 800) ?B ?F ?X ?T ?hA ?hf ?hk ?hh ?hd ?hu ?_; (case B => k_asm); (case F => k_asm); (case X => k_asm); (case T => k_asm); (case hA => exact rfl); (case hf => exact rfl); (case hk => exact rfl); (case hh => exact rfl); (case hd => exact Nat.le_of_ble_eq_true rfl); (case hu => exact Nat.le_of_ble_eq_true rfl)))
  k_with "call builtin:iter" => ((k_here; (with_reducible show wpAny _ _ (call (Value.builtin "iter") [Value.str _ _]) _ _ _); k_dflt (refine' iter_str_K (by k_asm) (by k_asm) (by assumption) ?_; k_whole); intro I9 h9 F9 N9 l9 f9; (try k_lt l9)); (try (revert I9 h9 F9 N9 l9 f9; intros)))
  k_with "compareOp Is ref ref" => (k_here; (with_reducible show wpAny _ _ (compareOp CmpOp.Is (Value.ref _) (Value.ref _)) _ _ _); k_dflt (refine' is_list_other (by is_list) (by kto_obj) (by assumption) ?_; k_whole))
  k_with "mine use70" => (refine wpAny_call ?_; (refine' use0 (d := 370) (u := 700) ?B ?F ?X ?T ?hA ?hf ?hk ?hh ?hd ?hu ?_; (case B => k_asm); (case F => k_asm); (case X => k_asm); (case T => k_asm); (case hA => exact rfl); (case hf => exact rfl); (case hk => exact rfl); (case hh => exact rfl); (case hd => exact Nat.le_of_ble_eq_true rfl); (case hu => exact Nat.le_of_ble_eq_true rfl)))
  k_with "mine use60" => (refine wpAny_call ?_; (refine' use0 (d := 360) (u := 600) ?B ?F ?X ?T ?hA ?hf ?hk ?hh ?hd ?hu ?_; (case B => k_asm); (case F => k_asm); (case X => k_asm); (case T => k_asm); (case hA => exact rfl); (case hf => exact rfl); (case hk => exact rfl); (case hh => exact rfl); (case hd => exact Nat.le_of_ble_eq_true rfl); (case hu => exact Nat.le_of_ble_eq_true rfl)))
  k_with "mine use50" => (refine wpAny_call ?_; (refine' use0 (d := 350) (u := 500) ?B ?F ?X ?T ?hA ?hf ?hk ?hh ?hd ?hu ?_; (case B => k_asm); (case F => k_asm); (case X => k_asm); (case T => k_asm); (case hA => exact rfl); (case hf => exact rfl); (case hk => exact rfl); (case hh => exact rfl); (case hd => exact Nat.le_of_ble_eq_true rfl); (case hu => exact Nat.le_of_ble_eq_true rfl)))
  k_with "call ref" => ((k_here; (with_reducible show wpAny _ _ (call (Value.ref 111) [Value.ref _, Value.ref _]) _ _ _); k_dflt (walk_at "mine use80"; intro B9 X9 T9; (refine' close_spec _ _ _ _ _ _ _ _ _ _ _ _ _ _ (by is_list) (by assumption) (by assumption) (by is_list) (by first | assumption | exact IntsAre.cons _ _ .nil) B9 X9 T9 ?_); clear B9 X9 T9; intro a9 h9 tk9 ws9 n9 x9 f9 g9 i9; (have F9 := Fr.keeps (by k_asm) x9); (have N9 := news_cons (by k_asm) (by k_asm) x9 f9 g9); clear x9 f9 g9; (try dsimp only); (try k_sweep))); (try (revert a9 h9 tk9 ws9 n9 i9 F9 N9; intros)))
  k_with "call ref" => (k_here; (with_reducible show wpAny _ _ (call (Value.ref 99) [Value.ref _, Value.str _ _, Value.ref _]) _ _ _); refine Stop.go ?_)
  k_with "eval Name" => (k_here; kc_free; k_dflt (refine' nameX_old (by k_asm) (by rfl) (by assumption) ?_ (by rfl) (by rfl); k_whole))
  k_with "call ref" => ((k_here; (with_reducible show wpAny _ _ (call (Value.ref 116) [Value.ref _, Value.ref _, Value.str _ _]) _ _ _); k_dflt (walk_at "mine use70"; intro B9 X9 T9; (refine' step_spec _ _ _ _ _ _ _ _ _ _ _ _ _ _ _ _ ?_ (by assumption) ?_ ?_ (by assumption) (by exact Zof_len (by assumption)) (by exact Zof_nonneg _ _ _) B9 X9 T9 ?_; (· is_list); (· assumption); (· is_list)); clear B9 X9 T9; intro a9 h9 tk9 ws9 n9 x9 f9 g9 i9; (have F9 := Fr.keeps (by k_asm) x9); (have N9 := news_cons (by k_asm) (by k_asm) x9 f9 g9); clear x9 f9 g9; (try dsimp only); (try k_sweep))); (try (revert a9 h9 tk9 ws9 n9 i9 F9 N9; intros)))
  trivial
theorem takes_fresh : ∀ (w : World) (mean : ExcName → Option Value) (mg mb : Str → Option Value) (lp : Addr) (vs : List Value) (ps : List Part) (x : Str) (tx : Tok)
    (fr : List Env) (base g : Heap) (s : Shared) (R : Result → Shared → Prop)
    (hg : g = hideAll s.heap [118]) (ht : s.heap.get? 118 = some (tabObj #[])) (hlp : g.IsList lp vs.toArray) (hvs : PAre vs ps) (hps : ps.length ≤ 8) (hx : x.cps.all (· < 128) = true)
    (B : Below (AA 340 400 fr) base fr g) (X : (Mine.heap39 w.params).In g) (T : Top topProg looseG mean mg mb g)
    (hret : ∀ (h' : Heap) (tk' : Nat) (c1 : Addr), (∀ b o, g.get? b = some o → h'.get? b = some o) → WarmAt h' c1 → s.heap.get? c1 = none → R (.ok (.ret (.bool (takesF ps x)))) { s with heap := h', toks := tk' }),
    codeAny (model PySem.Challenge.rw_in0045_01.row.prog w) (AA 340 400 fr) (.call (.ref 123) ⟨[.ref lp, .str x tx], []⟩) R s := by
  k_fill
  intro w mean mg mb lp vs ps x tx fr base g s R hg ht hlp hvs hps hx B X T hret
  have hsz : vs.toArray.size = ps.length := by rw [List.size_toArray]; exact hvs.length
  have hC : CodeHd g 122 118 := codeHd_of_K X rfl
  refine' enterC (tb := [(118, tabObj #[])]) (binds := [(Str.ofString "parts", .ref lp), (Str.ofString "name", .str x tx)]) g hg ?kt ?k3 ?k5 ?k6 ?k7 ?k8 ?k9 ?kB ?kD ?_ ?c2 ?c3 ?c4
  (case kt => intro q hq; rw [List.mem_singleton.mp hq]; exact ht)
  walk_at "mine sidesC"
  intro L' h' tk' cells' F' N' Y' l0
  k_cells Y'
  (try simp only [List.cons_append, List.nil_append, List.append_nil] at N')
  k_lt l0
  repeat' (first | walk1 | (dsimp only; walk1))
  refine Stop.out ?_
  rename_i oC dC t9 k9 f1 c1 oc1 vs1 t1 ct1 h1 tk1 d1 d2 lA lB D1 h2 lC a9 h9 tk9 ws9 n9 i9 F9 N9
  walk_at "mine use50"
  intro B9 X9 T9
  refine' reduce_str_spec w mean mg mb _ _ x tx ws9 (Zof ps x) _ _ _ _ ?fn hx ?ha ?hz ?hne B9 X9 T9 ?hf ?hret
  (case fn => exact FnAt.of N9 (by k_mem))
  (case ha => exact ⟨_, N9.get (by k_mem), rfl, _, rfl⟩)
  (case hz => exact i9)
  (case hne => exact ne_of_old N9 (by k_mem) (X 91 _ (by k_is)))
  (case hf =>
    intro i c u lq qs' s' fr' R' hi hc keep hl hz' B' X' T' hret'
    have hlp' : s'.heap.IsList lp vs.toArray := let ⟨o, a, b⟩ := F9.lst hlp; ⟨o, keep _ _ a, b⟩
    have hcc : CellAt s'.heap (L' + 1) (.ref lp) := ⟨_, keep _ _ (N9.get (by k_mem)), dC⟩
    have ho := keep _ _ (N9.get (a := f1) (by k_mem))
    have hcd : s'.heap.CodeRec (.ref c1) (Str.ofString "_law_takes.<locals>.<lambda>") := ⟨c1, oc1, vs1, t1, rfl, keep _ _ (N9.get (by k_mem)), d1, d2⟩
    clear F9 N9 B9 X9 T9 hlp hC B X T keep
    refine' enterL (tb := []) (binds := [(Str.ofString "places", .ref lq), (Str.ofString "sign", .str ⟨#[c]⟩ u)]) s'.heap rfl ?k3 T' ho hcd ?k8 ?k9 ?kB ?_ ?c2 ?c3 ?c4 ?c5
    (case k3 => intro q hq; cases hq)
    (case k8 => exact Nat.le_of_ble_eq_true rfl)
    (case k9 => exact rfl)
    (case kB => exact locs rfl)
    (case c2 => exact rfl)
    (case c3 => exact rfl)
    (case c4 => exact rfl)
    (case c5 => decide)
    intro L2 h2 F2 N2 l2
    repeat' (first | walk1 | (dsimp only; walk1))
    all_goals ((rename Fr _ _ _ _ => F3); (rename News _ _ _ _ => N3); (refine hret' _ _ _ _ _ F3.keep (N3.fresh (.head _)) (N3.get (.head _)) ?_); rw [Zof_succ hc]; assumption))
  (case hret =>
    intro a h' tk' ws keep hl hz'
    have F8 := Fr.keeps F9 keep
    have N8 := News.grown N9 keep
    clear F9 N9 B9 X9 T9
    repeat' (first | walk1 | (dsimp only; walk1))
    exact hret _ _ c1 F8.keep ⟨oc1, vs1, t1, N8.get (by k_mem), N8.get (by k_mem), d1, d2⟩ (not_hidden (l := [118]) (by intro q; exact Nat.ne_of_gt lA.2 (List.mem_singleton.mp q)) (hg ▸ N8.fresh (a := c1) (by k_mem))))
end
section
-- text C7h
open PySem PySem.W PyProof.Rows PySem.Calls
set_option maxHeartbeats 8000000
theorem takes_hit : ∀ (w : World) (mean : ExcName → Option Value) (mg mb : Str → Option Value) (lp : Addr) (vs : List Value) (ps : List Part) (x : Str) (tx : Tok)
    (fr : List Env) (base g : Heap) (s : Shared) (R : Result → Shared → Prop)
    (hg : g = hideAll s.heap [118]) (cw : Addr) (ht : WarmAt s.heap cw) (hlp : g.IsList lp vs.toArray) (hvs : PAre vs ps) (hps : ps.length ≤ 8) (hx : x.cps.all (· < 128) = true)
    (B : Below (AA 340 400 fr) base fr g) (X : (Mine.heap39 w.params).In g) (T : Top topProg looseG mean mg mb g)
    (hret : ∀ (h' : Heap) (tk' : Nat) (_ : Nat), (∀ b o, g.get? b = some o → h'.get? b = some o) → WarmAt h' cw → R (.ok (.ret (.bool (takesF ps x)))) { s with heap := h', toks := tk' }),
    codeAny (model PySem.Challenge.rw_in0045_01.row.prog w) (AA 340 400 fr) (.call (.ref 123) ⟨[.ref lp, .str x tx], []⟩) R s := by
  k_fill
  intro w mean mg mb lp vs ps x tx fr base g s R hg cw ht hlp hvs hps hx B X T hret
  obtain ⟨ocw, vsw, tw, ht⟩ := ht
  have hsz : vs.toArray.size = ps.length := by rw [List.size_toArray]; exact hvs.length
  have hC : CodeHd g 122 118 := codeHd_of_K X rfl
  refine' enterC (tb := [(118, tabObj #[rawInt 163, rawInt 32, .ref cw])]) (binds := [(Str.ofString "parts", .ref lp), (Str.ofString "name", .str x tx)]) g hg ?kt ?k3 ?k5 ?k6 ?k7 ?k8 ?k9 ?kB ?kD ?_ ?c2 ?c3 ?c4
  (case kt => intro q hq; rw [List.mem_singleton.mp hq]; exact ht.1)
  walk_at "mine sidesC"
  intro L' h' tk' cells' F' N' Y' l0
  k_cells Y'
  (try simp only [List.cons_append, List.nil_append, List.append_nil] at N')
  k_lt l0
  repeat' (first | walk1 | (dsimp only; walk1))
  refine Stop.out ?_
  rename_i oC dC t9 k9 f1 ct1 h1 tk1 lB D1 h2 lC a9 h9 tk9 ws9 n9 i9 F9 N9
  have hcw : g.get? cw = some ocw := by rw [hg]; exact hideAll_get _ ht.2.1 (by intro q; rw [List.mem_singleton.mp q] at ht; have := ht.1.symm.trans ht.2.1; cases this; cases ht.2.2.1; cases ht.2.2.2)
  walk_at "mine use50"
  intro B9 X9 T9
  refine' reduce_str_spec w mean mg mb _ _ x tx ws9 (Zof ps x) _ _ _ _ ?fn hx ?ha ?hz ?hne B9 X9 T9 ?hf ?hret
  (case fn => exact FnAt.of N9 (by k_mem))
  (case ha => exact ⟨_, N9.get (by k_mem), rfl, _, rfl⟩)
  (case hz => exact i9)
  (case hne => exact ne_of_old N9 (by k_mem) (X 91 _ (by k_is)))
  (case hf =>
    intro i c u lq qs' s' fr' R' hi hc keep hl hz' B' X' T' hret'
    have hlp' : s'.heap.IsList lp vs.toArray := let ⟨o, a, b⟩ := F9.lst hlp; ⟨o, keep _ _ a, b⟩
    have hcc : CellAt s'.heap (L' + 1) (.ref lp) := ⟨_, keep _ _ (N9.get (by k_mem)), dC⟩
    have ho := keep _ _ (N9.get (a := f1) (by k_mem))
    have hcd : s'.heap.CodeRec (.ref cw) (Str.ofString "_law_takes.<locals>.<lambda>") := ⟨cw, ocw, vsw, tw, rfl, keep _ _ (F9.keep _ _ hcw), ht.2.2.1, ht.2.2.2⟩
    clear F9 N9 B9 X9 T9 hlp hC B X T keep hcw ht
    refine' enterL (tb := []) (binds := [(Str.ofString "places", .ref lq), (Str.ofString "sign", .str ⟨#[c]⟩ u)]) s'.heap rfl ?k3 T' ho hcd ?k8 ?k9 ?kB ?_ ?c2 ?c3 ?c4 ?c5
    (case k3 => intro q hq; cases hq)
    (case k8 => exact Nat.le_of_ble_eq_true rfl)
    (case k9 => exact rfl)
    (case kB => exact locs rfl)
    (case c2 => exact rfl)
    (case c3 => exact rfl)
    (case c4 => exact rfl)
    (case c5 => decide)
    intro L2 h2 F2 N2 l2
    repeat' (first | walk1 | (dsimp only; walk1))
    all_goals ((rename Fr _ _ _ _ => F3); (rename News _ _ _ _ => N3); (refine hret' _ _ _ _ _ F3.keep (N3.fresh (.head _)) (N3.get (.head _)) ?_); rw [Zof_succ hc]; assumption))
  (case hret =>
    intro a h' tk' ws keep hl hz'
    have F8 := Fr.keeps F9 keep
    have N8 := News.grown N9 keep
    clear F9 N9 B9 X9 T9
    repeat' (first | walk1 | (dsimp only; walk1))
    exact hret _ _ 0 F8.keep ⟨ocw, vsw, tw, N8.get (by k_mem), F8.keep _ _ hcw, ht.2.2⟩)
end
section
-- text C8
open PySem PySem.W PyProof.Rows PySem.Calls
set_option maxHeartbeats 8000000
theorem takes_spec (w : World) (mean : ExcName → Option Value) (mg mb : Str → Option Value) (lp : Addr) (vs : List Value) (ps : List Part) (x : Str) (tx : Tok) (tb : List (Addr × Obj))
    (fr : List Env) (base g : Heap) (s : Shared) (R : Result → Shared → Prop)
    (hg : g = hideAll s.heap (tb.map (·.1))) (hts : Tabs118 tb) (htb : ∀ q ∈ tb, s.heap.get? q.1 = some q.2) (hlp : g.IsList lp vs.toArray) (hvs : PAre vs ps) (hps : ps.length ≤ 8) (hx : x.cps.all (· < 128) = true)
    (B : Below (AA 340 400 fr) base fr g) (X : (Mine.heap39 w.params).In g) (T : Top topProg looseG mean mg mb g)
    (hret : ∀ (h' : Heap) (tk' : Nat) (tb' : List (Addr × Obj)), (∀ b o, g.get? b = some o → h'.get? b = some o) → TabStep s.heap h' tb tb' → R (.ok (.ret (.bool (takesF ps x)))) { s with heap := h', toks := tk' }) :
    codeAny (model PySem.Challenge.rw_in0045_01.row.prog w) (AA 340 400 fr) (.call (.ref 123) ⟨[.ref lp, .str x tx], []⟩) R s := by
  rcases hts with rfl | ⟨c, oc, vs', t, rfl, hne, hd, hv⟩
  · refine takes_fresh w mean mg mb lp vs ps x tx fr base g s R hg (htb _ (.head _)) hlp hvs hps hx B X T fun h' tk' c1 k wm hn => ?_
    obtain ⟨oc, vs', t, e1, e2, e3, e4⟩ := wm
    have hne : c1 ≠ 118 := fun e => by rw [e] at hn; rw [htb _ (.head _)] at hn; cases hn
    refine hret h' tk' [(118, tabObj #[rawInt 163, rawInt 32, .ref c1]), (c1, oc)] k ⟨⟨c1, oc, vs', t, rfl, hne, e3, e4⟩, fun q hq => ?_, fun q hq => ?_, fun q hq => ?_⟩
    · rcases List.mem_cons.mp hq with rfl | hq
      · exact e1
      · rw [List.mem_singleton.mp hq]; exact e2
    · rcases List.mem_cons.mp hq with rfl | hq
      · exact .inl (.head _)
      · rw [List.mem_singleton.mp hq]; exact .inr hn
    · rw [List.mem_singleton.mp hq]; exact .head _
  · have h118 := htb _ (.head _)
    have hc := htb _ (.tail _ (.head _))
    have st : ∀ b o, g.get? b = some o → (hideAll s.heap [118]).get? b = some o := fun b o e => by
      rw [hg] at e
      have hb : b ∉ ([(118, tabObj #[rawInt 163, rawInt 32, .ref c]), (c, oc)] : List (Addr × Obj)).map (·.1) := fun hm => by rw [hideAll_none _ hm] at e; cases e
      exact hideAll_get _ (of_hideAll _ e) fun hm => hb (by rw [List.mem_singleton.mp hm]; exact .head _)
    refine takes_hit w mean mg mb lp vs ps x tx fr base (hideAll s.heap [118]) s R rfl c ⟨oc, vs', t, h118, hc, hd, hv⟩ (let ⟨o, a, b⟩ := hlp; ⟨o, st _ _ a, b⟩) hvs hps hx
      ⟨B.stack, fun b o e => st _ _ (B.stays b o e), Heap.FunFrames.of_keeps (fun b o e _ => ⟨o, st _ _ e, rfl⟩) B.frames⟩ (X.keeps st) (T.keeps st) fun h' tk' _ k wm => ?_
    obtain ⟨oc', _, _, e1, e2, _, _⟩ := wm
    have e3 : h'.get? c = some oc := k _ _ (hideAll_get _ hc (by intro hm; exact hne (List.mem_singleton.mp hm)))
    refine hret h' tk' _ (fun b o e => k b o (st b o e)) ⟨⟨c, oc, vs', t, rfl, hne, hd, hv⟩, fun q hq => ?_, fun q hq => .inl (List.mem_map_of_mem hq), fun q hq => List.mem_map_of_mem hq⟩
    rcases List.mem_cons.mp hq with rfl | hq
    · exact e1
    · rw [List.mem_singleton.mp hq]; exact e3
end
section
-- text C10
open PySem PySem.W PyProof.Rows PySem.Calls
set_option maxHeartbeats 8000000
theorem rows_C10 : True := by
  k_with_none
  k_with "mine sides0" => ((case k3 => k_asm); (case k5 => k_asm); (case k6 => k_is); (case k7 => k_is); (case k8 => exact Nat.le_of_ble_eq_true rfl); (case k9 => first | exact BindsTo.of_eq rfl | exact binds_K (by k_in) rfl (by k_is) rfl rfl rfl); (case c5 => decide); (case kB => exact locs rfl); (case c2 => exact rfl); (case c3 => exact rfl); (case c4 => exact rfl))
  k_with "mine sidesC" => ((case k3 => k_asm); (case k5 => k_asm); (case k6 => k_is); (case k7 => k_is); (case k8 => exact Nat.le_of_ble_eq_true rfl); (case k9 => first | exact BindsTo.of_eq rfl | exact binds_K (by k_in) rfl (by k_is) rfl rfl rfl); (case kB => exact rfl); (case kD => decide +kernel); (case c2 => exact rfl); (case c3 => exact rfl); (case c4 => exact rfl))
  k_with "mine enter0" => ((refine' enterS (by k_asm) (by k_asm) (by k_is) (by k_is) (by exact Nat.le_of_ble_eq_true rfl) (by first | exact BindsTo.of_eq rfl | exact binds_K (by k_in) rfl (by k_is) rfl rfl rfl) (by exact locs rfl) ?_ (by exact rfl) (by exact rfl) (by exact rfl) (by decide); k_whole; intro L' h' F' N'); (try (revert L' h' F' N'; intros)))
  k_with "mine enterC" => ((refine' enterSC (by k_asm) (by k_asm) (by k_is) (by k_is) (by exact Nat.le_of_ble_eq_true rfl) (by first | exact BindsTo.of_eq rfl | exact binds_K (by k_in) rfl (by k_is) rfl rfl rfl) (by exact rfl) (by decide +kernel) ?_ (by exact rfl) (by exact rfl) (by exact rfl); k_whole; intro L' h' tk' cells' F' N' Y'; k_cells Y'; (try simp only [List.cons_append, List.nil_append, List.append_nil] at N')); (try (revert L' h' tk' cells' F' N' Y'; intros)))
  k_with "eval ListComp" => (k_here; lcf_look; k_dflt (refine LCg.ListComp_U (F₀ := by k_asm) (by with_unfolding_all rfl) (by decide) (by rfl) (by decide) (by rfl) ?_); k_dflt lcg_toSrc)
  k_with "CompSrc" => (k_here; k_dflt (first | (refine LCg.CompSrc.ledger (by rfl) (by k_asm) (by k_asm) (by k_mem) (by first | size_fits | exact Nat.le_of_ble_eq_true rfl) ?_; intro g'; lcg_lit) | (refine LCg.CompSrc.base (by rfl) (by k_asm) (by k_asm) (by assumption) (by first | size_fits | exact Nat.le_of_ble_eq_true rfl) ?_; intro g'; lcg_lit) | (refine LCg.CompSrc.range (by rfl) (by k_asm) (by k_asm) (by assumption) (by first | decide | rfl) (by first | rfl | decide) (by first | size_fits | exact Nat.le_of_ble_eq_true rfl) ?_; intro g'; lcg_lit)))
  k_with "getMethod str" => ((with_reducible show wpAny _ _ (getMethod (Value.str _ _) (PySem.Str.ofString "translate") _) _ _ _); refine GM.of _ (typeIs_str _ _ _) F.slot_str_translate F.type_str_translate GM.noRef ?_)
  k_with "call builtin:str.translate" => ((k_here; k_dflt (refine' translate_K (by k_asm) (by k_asm) (by k_asm) (by k_is) (by decide +kernel) (by assumption) (by rfl) (by rfl) (by rename _ ∨ _ => hn9; rcases hn9 with e | e <;> (rw [e]; decide +kernel)) ?_; k_whole); intro t9 h9 tk9 F9 N9); (try (revert t9 h9 tk9 F9 N9; intros)))
  k_with "getAttr ref" => ((k_here; (with_reducible show wpAny _ _ (getAttr (Value.ref _) (PySem.Str.ofString "append") _) _ _ _); k_dflt (refine' getAttr_append_K (by k_asm) (by k_asm) (by k_mem) ?_; k_whole); intro u' h' tk' F' N' l1; (try k_lt l1); (try k_sweep)); (try (revert u' h' tk' F' N' l1; intros)))
  k_with "callWith ref" => (k_here; (with_reducible show wpAny _ _ (callWith _ (Value.ref _) _ (backTo _ (starEach (_ :: _) _)) []) _ _ _); k_dflt (refine' callWith_bnd_K (by k_asm) (by k_mem) ?_; k_whole))
  k_with "And" => ((with_reducible show BndAt _ _ _ _ ∧ _); k_dflt (refine ⟨bndAt_of (by k_asm) (by k_mem), ?_⟩); (try dsimp only [List.nil_append, List.cons_append]))
  k_with "call ref" => ((k_here; k_dflt (refine' call_bnd_append_K (by k_asm) (by k_asm) (by k_mem) (by k_updF) (by first | assumption | size_fits | exact Nat.le_of_ble_eq_true rfl) ?_; k_whole); intro h' F' N'; (try dsimp only at N'); (try k_sweep)); (try (revert h' F' N'; intros)))
  k_with "exec While Compare cons nil" => (k_here; (with_reducible show wpAny _ _ (exec (Stmt.While _ _ _ _) _) _ _ _); refine Stop.go ?_)
  k_with "call builtin:len" => ((k_here; (with_reducible show wpAny _ _ (call (Value.builtin "len") [Value.str (Str.mk _) _]) _ _ _); (first | refine len_known 3 rfl rfl ?_ | refine len_known 2 rfl rfl ?_ | refine len_known 1 rfl rfl ?_ | refine len_known 0 rfl rfl ?_); intro t9 k9); (try (revert t9 k9; intros)))
  k_with "subscriptTail Name Name str int" => ((k_here; (with_reducible show wpAny _ _ (subscriptTail _ _ (Value.str _ _) (Value.int _ _)) _ _ _); k_dflt (refine' item_at (by assumption) (by omega) ?_; k_whole); intro t9 k9); (try (revert t9 k9; intros)))
  k_with "subscriptTail" => (k_here; (with_reducible show wpAny _ _ (subscriptTail _ _ (Value.ref _) (Value.int (-1) _)) _ _ _); k_dflt (refine' item_last (by k_asm) (by k_mem) (by omega) ?_; k_whole))
  k_with "truthy ref" => ((k_here; (with_reducible show wpAny _ _ (truthy (Value.ref _)) _ _ _); k_dflt (first | (refine' truthy_known true (by k_asm) (by k_mem) (by (first | assumption | exact Nat.le_of_ble_eq_true rfl | (simp only [Array.size_push]; omega))) (by (first | rfl | (simp; done))) ?_; k_whole) | (refine' truthy_known false (by k_asm) (by k_mem) (by (first | assumption | exact Nat.le_of_ble_eq_true rfl)) (by rfl) ?_; k_whole)); intro k9); (try (revert k9; intros)))
  k_with "ite" => (k_closed; k_dflt (first | refine ite_pos (by decide +kernel) ?_ | refine ite_neg (by decide +kernel) ?_))
  k_with "exec For Name Call cons nil" => (k_here; (with_reducible show wpAny _ _ (exec (Stmt.For _ _ _ _ _) _) _ _ _); refine Stop.go ?_)
  k_with "pyIter ref" => (k_here; (with_reducible show wpAny _ _ (pyIter _) (fun _ _ => LoopAtV _ _ _ _ _ _ _ _ _ _ _) _ _); refine Stop.go ?_)
  k_with "call builtin:len" => ((k_here; (with_reducible show wpAny _ _ (call (Value.builtin "len") [Value.ref _]) _ _ _); k_dflt (refine' len_list_is (by first | assumption | exact Fr.lst (by assumption) (by assumption)) (by assumption) (by omega) ?_; k_whole); intro t9 k9); (try (revert t9 k9; intros)))
  k_with "compareOp In int ref" => (k_here; k_dflt (refine' in_list_ints (by is_list) (by assumption) ?_; k_whole))
  k_with "subscriptTail Name BinOp ref int" => (k_here; k_dflt (refine' item_pred (by is_list) (by assumption) (by omega) ?_; k_whole))
  k_with "binaryOp Add ref ref" => ((k_here; k_dflt (refine' add_ints_K (by k_asm) (by k_asm) (by k_mem) (by k_mem) (by assumption) (by omega) ?_; k_whole); intro D' h' ws' F' N' hI'); (try (revert D' h' ws' F' N' hI'; intros)))
  k_with "exec Assign cons ListComp" => (k_here; lct_look; k_dflt (refine LCt.Assign_ListComp_T (F₀ := by k_asm) (by rfl) (by with_unfolding_all rfl) (by with_unfolding_all rfl) (by decide) (by rfl) (by decide) (by rfl) (by rfl) (by rfl) ?_); k_dflt lct_toSrc)
  k_with "CompSrcT" => (k_here; refine Stop.go ?_)
  k_with "CompEnd" => (k_here; refine Stop.go ?_)
  k_with "subscriptTail Name Name ref int" => (k_here; k_dflt (refine' item_nat_list (by is_list) (by assumption) (by omega) ?_; k_whole))
  k_with "compareOp In none ref" => (k_here; k_dflt (refine' in_disp (by is_list) (by assumption) ?_; k_whole))
  k_with "compareOp In str ref" => (k_here; k_dflt (refine' in_disp (by is_list) (by assumption) ?_; k_whole))
  k_with "mine use80" => (refine wpAny_call ?_; (refine' use0 (d := 380) (u := 800) ?B ?F ?X ?T ?hA ?hf ?hk ?hh ?hd ?hu ?_; (case B => k_asm); (case F => k_asm); (case X => k_asm); (case T => k_asm); (case hA => exact rfl); (case hf => exact rfl); (case hk => exact rfl); (case hh => exact rfl); (case hd => exact Nat.le_of_ble_eq_true rfl); (case hu => exact Nat.le_of_ble_eq_true rfl)))
  k_with "call builtin:iter" => ((k_here; (with_reducible show wpAny _ _ (call (Value.builtin "iter") [Value.str _ _]) _ _ _); k_dflt (refine' iter_str_K (by k_asm) (by k_asm) (by assumption) ?_; k_whole); intro I9 h9 F9 N9 l9 f9; (try k_lt l9)); (try (revert I9 h9 F9 N9 l9 f9; intros)))
  k_with "compareOp Is ref ref" => (k_here; (with_reducible show wpAny _ _ (compareOp CmpOp.Is (Value.ref _) (Value.ref _)) _ _ _); k_dflt (refine' is_list_other (by is_list) (by kto_obj) (by assumption) ?_; k_whole))
  k_with "mine use70" => (refine wpAny_call ?_; (refine' use0 (d := 370) (u := 700) ?B ?F ?X ?T ?hA ?hf ?hk ?hh ?hd ?hu ?_; (case B => k_asm); (case F => k_asm); (case X => k_asm); (case T => k_asm); (case hA => exact rfl); (case hf => exact rfl); (case hk => exact rfl); (case hh => exact rfl); (case hd => exact Nat.le_of_ble_eq_true rfl); (case hu => exact Nat.le_of_ble_eq_true rfl)))
  k_with "mine use60" => (refine wpAny_call ?_; (refine' use0 (d := 360) (u := 600) ?B ?F ?X ?T ?hA ?hf ?hk ?hh ?hd ?hu ?_; (case B => k_asm); (case F => k_asm); (case X => k_asm); (case T => k_asm); (case hA => exact rfl); (case hf => exact rfl); (case hk => exact rfl); (case hh => exact rfl); (case hd => exact Nat.le_of_ble_eq_true rfl); (case hu => exact Nat.le_of_ble_eq_true rfl)))
  k_with "mine use50" => (refine wpAny_call ?_; (refine' use0 (d := 350) (u := 500) ?B ?F ?X ?T ?hA ?hf ?hk ?hh ?hd ?hu ?_; (case B => k_asm); (case F => k_asm); (case X => k_asm); (case T => k_asm); (case hA => exact rfl); (case hf => exact rfl); (case hk => exact rfl); (case hh => exact rfl); (case hd => exact Nat.le_of_ble_eq_true rfl); (case hu => exact Nat.le_of_ble_eq_true rfl)))
  k_with "eval Name" => (k_here; kc_free; k_dflt (refine' nameX_old (by k_asm) (by rfl) (by assumption) ?_ (by rfl) (by rfl); k_whole))
  k_with "call builtin:iter" => ((k_here; (with_reducible show wpAny _ _ (call (Value.builtin "iter") [Value.ref _]) _ _ _); k_dflt (refine' iter_list_K (by k_asm) (by k_asm) (by is_list) ?_; k_whole); intro I9 h9 F9 N9 l9 f9; (try k_lt l9)); (try (revert I9 h9 F9 N9 l9 f9; intros)))
  k_with "exec For Name Name cons nil" => (k_here; (with_reducible show wpAny _ _ (exec (Stmt.For _ _ _ _ _) _) _ _ _); refine Stop.go ?_)
  k_with "callWith ref" => (k_here; (with_reducible show wpAny _ _ (callWith _ (Value.ref _) _ (backTo _ (starEach (_ :: _) _)) []) _ _ _); k_dflt (refine' callWith_F (by exact fnAt_kept (by k_asm) (by assumption)) ?_; k_whole))
  k_with "And" => ((with_reducible show FnAt _ _ ∧ _); k_dflt (refine ⟨fnAt_kept (by k_asm) (by assumption), ?_⟩); (try dsimp only [List.nil_append, List.cons_append]))
  k_with "call ref" => (k_here; (with_reducible show wpAny _ _ (call (Value.ref _) [Value.int _ _, Value.ref _]) _ _ _); refine Stop.go ?_)
  k_with "compareOp Is int ref" => (k_here; (with_reducible show wpAny _ _ (compareOp CmpOp.Is (Value.int _ _) (Value.ref _)) _ _ _); refine wpAny_is_other (by rfl) (by intro x; cases x) ?_)
  k_with "subscriptTail Name Slice ref ref" => ((k_here; (with_reducible show wpAny _ _ (subscriptTail _ (PySem.Expr.Slice none none (some _) _) (Value.ref _) (Value.ref _)) _ _ _); k_dflt (refine' krv_lit (by k_asm) (by k_asm) (by exact Fr.lst (by k_asm) (by assumption)) (by exact IsPart.int _ _) rfl ?_ (by with_unfolding_all rfl) (by kmk_pure) (by assumption); k_whole); intro D' h' F' N' l1; (try k_lt l1)); (try (revert D' h' F' N' l1; intros)))
  k_with "call ref" => (k_here; (with_reducible show wpAny _ _ (call (Value.ref 99) [Value.ref _, Value.ref _, Value.int _ _]) _ _ _); refine Stop.go ?_)
  k_with "call ref" => (k_here; (with_reducible show wpAny _ _ (call (Value.ref 123) [Value.ref _, Value.str _ _]) _ _ _); refine Stop.go ?_)
  trivial
noncomputable def lamOfFold (P : Params) : Option (Arguments × PySem.Expr × Scope × Pos) := match (Mine.heap39 P).lookup 147 with
  | some ⟨_, _, .func fd, _⟩ => (match fd.body with | .stmts (_ :: _ :: _ :: .Assign _ (.Lambda p b sc pos) _ :: _) => some (p, b, sc, pos) | _ => none)
  | _ => none
theorem fold_fresh : ∀ (w : World) (mean : ExcName → Option Value) (mg mb : Str → Option Value) (f0 c0 P0 cR lr : Addr) (params : Arguments) (body : PySem.Expr) (scope : Scope) (pos : Pos) (pm ctv : Value) (x : Str) (tx : Tok) (its : List Value) (rs : List (Int × List Part))
    (fr : List Env) (base g : Heap) (s : Shared) (R : Result → Shared → Prop)
    (hE : lamOfFold w.params = some (params, body, scope, pos))
    (hg : g = hideAll s.heap [P0, 118]) (h1 : s.heap.get? P0 = some (tabObj #[])) (h2 : s.heap.get? 118 = some (tabObj #[])) (hne : @LT.lt Nat instLTNat 118 P0)
    (hC : CodeHd g c0 P0) (hf : g.get? f0 = some (kla_obj (Str.ofString "<lambda>") (Str.ofString "law.<locals>.<lambda>") params body scope [(Str.ofString "rules", cR)] pm c0 ctv)) (hcd : g.CodeRec (.ref c0) (Str.ofString "law.<locals>.<lambda>"))
    (hR : CellAt g cR (.ref lr)) (hl : g.IsList lr its.toArray) (hlz : its.toArray.size ≤ sizeLine) (hrs : RulesAre g its rs) (hrn : 0 < its.length) (hx : x.cps.all (· < 128) = true)
    (B : Below (AA 310 100 fr) base fr g) (X : (Mine.heap39 w.params).In g) (T : Top topProg looseG mean mg mb g)
    (hret : ∀ (h' : Heap) (tk' : Nat) (u : Tok) (tb' : List (Addr × Obj)), (∀ b o, g.get? b = some o → h'.get? b = some o) → WarmF P0 tb' → (∀ q ∈ tb', h'.get? q.1 = some q.2) → (∀ q ∈ tb', q.1 = P0 ∨ q.1 = 118 ∨ s.heap.get? q.1 = none) →
      R (.ok (.ret (.int (Vof rs.reverse x its.length) u))) { s with heap := h', toks := tk' }),
    codeAny (model PySem.Challenge.rw_in0045_01.row.prog w) (AA 310 100 fr) (.call (.ref f0) ⟨[.str x tx], []⟩) R s := by
  k_fill
  intro w mean mg mb f0 c0 P0 cR lr params body scope pos pm ctv x tx its rs fr base g s R hE hg h1 h2 hne hC hf hcd hR hl hlz hrs hrn hx B X T hret
  cases hE
  refine' enterL1 (tb := [(P0, tabObj #[]), (118, tabObj #[])]) (n := Str.ofString "name") (v := .str x tx) g hg ?k3 T (of_hideAll _ (hg ▸ hf)) (hcd.keeps fun b o e => of_hideAll _ (hg ▸ e)) ?k8 ?k9 ?kl ?kc ?kp ?_ ?c2 ?c3 ?c4
  (case k3 => intro q hq; rcases List.mem_cons.mp hq with rfl | hq; · exact h1
              rw [List.mem_singleton.mp hq]; exact h2)
  (case k8 => exact Nat.le_of_ble_eq_true rfl)
  (case k9 => exact rfl)
  (case kl => exact rfl)
  (case kc => intro k; rfl)
  (case kp => intro h; rfl)
  (case c2 => exact rfl)
  (case c3 => exact rfl)
  (case c4 => exact rfl)
  intro L' h' o' F' N' d' l0
  k_lt l0
  repeat' (first | walk1 | (dsimp only; walk1))
  refine Stop.out ?_
  rename_i f1 c1 oc1 vs1 t1 ct1 h1' tk1 F1 N1 d1 d2 lA lB D1 h3 F9 N9 lC
  clear F1 N1
  refine wpAny_call ?_
  refine' useT (tb := [(118, tabObj #[])]) (d := 320) (u := 200) B F9 (fun q hq => by rw [List.mem_singleton.mp hq]; exact N9 _ (by k_mem)) X T ?hA ?hf ?hk ?hh ?hd ?hu ?_
  (case hA => exact rfl)
  (case hf => exact rfl)
  (case hk => exact rfl)
  (case hh => exact rfl)
  (case hd => exact Nat.le_of_ble_eq_true rfl)
  (case hu => exact Nat.le_of_ble_eq_true rfl)
  intro g' hg' st B9 X9 T9
  have up : ∀ b o, b ≠ 118 → h3.get? b = some o → g'.get? b = some o := fun b o hb e => by rw [hg']; exact hideAll_get _ e (fun q => hb (List.mem_singleton.mp q))
  have eD : (its.toArray.toList.reverse).toArray = its.reverse.toArray := by simp
  have hD : g'.IsList D1 its.reverse.toArray := ⟨_, up _ _ (Nat.ne_of_gt (by omega)) (N9.get (a := D1) (by k_mem)), rfl, 0, by rw [← eD]⟩
  refine reduce_list_spec w mean mg mb f1 D1 its.reverse (Vof rs.reverse x) _ [(118, tabObj #[])] _ base g' _ _ hg' (.inl rfl) (fun q hq => by rw [List.mem_singleton.mp hq]; exact N9.get (by k_mem)) ⟨_, _, _, _, up _ _ (Nat.ne_of_gt (by omega)) (N9.get (a := f1) (by k_mem))⟩ (by rw [List.length_reverse]; exact hrn) hD ?hrefs B9 X9 T9 ?hf ?hret
  (case hrefs => intro i v e; obtain ⟨r, _, a, _, _, _, e, _⟩ := hrs.reverse.get e; exact ⟨a, e⟩)
  (case hf =>
    intro i a u tb s' fr' R' g2 hv hg2 hts htb st2 B2 X2 T2 hret2
    obtain ⟨r, hr, a', t, lp, vs, e, hla, hlp, hvs, hps⟩ := hrs.reverse.get hv
    cases e
    have k2 : ∀ b o, g.get? b = some o → g2.get? b = some o := fun b o e => st2 _ _ (st _ _ e)
    have hla2 : g2.IsList a #[.int r.1 t, .ref lp] := let ⟨o, o1, o2⟩ := hla; ⟨o, k2 _ _ o1, o2⟩
    have hlp2 : g2.IsList lp vs.toArray := let ⟨o, o1, o2⟩ := hlp; ⟨o, k2 _ _ o1, o2⟩
    have hcc : CellAt g2 (L' + 1) (.str x tx) := ⟨o', st2 _ _ (up _ _ (Nat.ne_of_gt (by omega)) (N9.get (by k_mem))), d'⟩
    have ho := of_hideAll _ (hg2 ▸ st2 _ _ (up _ _ (Nat.ne_of_gt (by omega)) (N9.get (a := f1) (by k_mem))))
    have hcd2 : s'.heap.CodeRec (.ref c1) (Str.ofString "law.<locals>.<lambda>.<locals>.<lambda>") := ⟨c1, oc1, vs1, t1, rfl, of_hideAll _ (hg2 ▸ st2 _ _ (up _ _ (Nat.ne_of_gt (by omega)) (N9.get (a := c1) (by k_mem)))), d1, d2⟩
    clear F9 N9 B9 X9 T9 hD up st st2 k2 hla hlp hl hR hf hcd hC B X T hrs
    refine' enterL (tb := tb) (binds := [(Str.ofString "told", .int (Vof rs.reverse x i) u), (Str.ofString "rule", .ref a)]) g2 hg2 htb T2 ho hcd2 ?k8 ?k9 ?kB ?_ ?c2 ?c3 ?c4 ?c5
    (case k8 => exact Nat.le_of_ble_eq_true rfl)
    (case k9 => exact rfl)
    (case kB => exact locs rfl)
    (case c2 => exact rfl)
    (case c3 => exact rfl)
    (case c4 => exact rfl)
    (case c5 => decide)
    intro L2 h2 F2 N2 l2
    repeat' (first | walk1 | (dsimp only; walk1))
    refine Stop.out ?_
    refine wpAny_call ?_
    refine' useT (tb := tb) (d := 340) (u := 400) B2 F2 N2 X2 T2 ?hA ?hf ?hk ?hh ?hd ?hu ?_
    (case hA => exact rfl)
    (case hf => exact rfl)
    (case hk => exact rfl)
    (case hh => exact rfl)
    (case hd => exact Nat.le_of_ble_eq_true rfl)
    (case hu => exact Nat.le_of_ble_eq_true rfl)
    intro g3 hg3 st3 B3 X3 T3
    refine takes_spec w mean mg mb lp vs r.2 x tx tb _ base g3 _ _ hg3 hts (fun q hq => (N2 q hq).1) (let ⟨o, o1, o2⟩ := hlp2; ⟨o, st3 _ _ o1, o2⟩) hvs hps hx B3 X3 T3 ?_
    intro h4 tk4 tb4 k4 ts4
    have N2' : News g2 L2 h2 (tb ++ []) := by rw [List.append_nil]; exact N2
    obtain ⟨F4, N4⟩ := after_tab F2 N2' (fun p hp => nomatch hp) (hg3 ▸ k4) ts4
    have hc4 := CumT.step hg2 F2 N2' (CumT.start hts) ts4
    have hV := Vof_succ (x := x) hr
    clear F2 N2 N2' B3 X3 T3
    rw [List.append_nil] at N4
    have ts5 : ∀ h5, News g2 L2 h5 tb4 → TabStep s'.heap h5 tb tb4 := fun h5 N5 => ⟨ts4.st, fun q hq => (N5 q hq).1, hc4.2.1, hc4.2.2⟩
    cases htk : takesF r.2 x with
    | true =>
      rw [htk, if_pos rfl] at hV
      repeat' (first | walk1 | (dsimp only; walk1))
      all_goals ((rename Fr _ _ _ _ => F5); (rename News _ _ _ _ => N5); (have q5 := fun tk u => hret2 _ tk tb4 u F5.keep (ts5 _ N5)); (simp only [hV] at q5); exact q5 _ _)
    | false =>
      rw [htk, if_neg (by decide)] at hV
      repeat' (first | walk1 | (dsimp only; walk1))
      all_goals ((rename Fr _ _ _ _ => F5); (rename News _ _ _ _ => N5); (have q5 := fun tk u => hret2 _ tk tb4 u F5.keep (ts5 _ N5)); (simp only [hV] at q5); exact q5 _ _))
  (case hret =>
    intro h' tk' tb' u' k ts
    have up2 : ∀ b o, b ≠ 118 → h3.get? b = some o → h'.get? b = some o := fun b o hb e => k _ _ (up _ _ hb e)
    have keepg : ∀ b o, g.get? b = some o → h'.get? b = some o := fun b o e => k _ _ (st _ _ e)
    have fresh3 : ∀ b, h3.get? b = none → s.heap.get? b = none ∨ b = P0 ∨ b = 118 := fun b e => by
      cases q : s.heap.get? b with
      | none => exact .inl rfl
      | some o =>
        by_cases hb : b ∈ [P0, 118]
        · rcases List.mem_cons.mp hb with h | h
          · exact .inr (.inl h)
          · exact .inr (.inr (List.mem_singleton.mp h))
        · have := F9.keep _ _ (show g.get? b = some o by rw [hg]; exact hideAll_get _ q hb)
          rw [e] at this; cases this
    have hts := ts.fresh
    have gP : h3.get? P0 = some (tabObj #[rawInt 187, rawInt 31, .ref c1]) := N9.get (by k_mem)
    have gc : h3.get? c1 = some oc1 := N9.get (by k_mem)
    simp only [List.length_reverse]
    refine hret h' tk' u' ((P0, tabObj #[rawInt 187, rawInt 31, .ref c1]) :: (c1, oc1) :: tb') keepg ⟨c1, oc1, vs1, t1, tb', rfl, ts.st, d1, d2, Nat.ne_of_gt lA.2.1, fun q hq => ?_⟩ (fun q hq => ?_) (fun q hq => ?_)
    · rcases hts q hq with h | h
      · have e : q.1 = 118 := by simpa using h
        rw [e]; exact ⟨Nat.ne_of_lt hne, Nat.ne_of_lt lA.2.2⟩
      · exact ⟨fun e => by (rw [e, gP] at h; cases h), fun e => by (rw [e, gc] at h; cases h)⟩
    · rcases List.mem_cons.mp hq with rfl | hq
      · exact up2 _ _ (Nat.ne_of_gt hne) gP
      · rcases List.mem_cons.mp hq with rfl | hq
        · exact up2 _ _ (Nat.ne_of_gt lA.2.2) gc
        · exact ts.at' q hq
    · rcases List.mem_cons.mp hq with rfl | hq
      · exact .inl rfl
      · rcases List.mem_cons.mp hq with rfl | hq
        · refine .inr (.inr (not_hidden (l := [P0, 118]) (fun q => ?_) (hg ▸ N9.fresh (a := c1) (by k_mem))))
          rcases List.mem_cons.mp q with h | h
          · exact Nat.ne_of_gt lA.2.1 h
          · exact Nat.ne_of_gt lA.2.2 (List.mem_singleton.mp h)
        · rcases hts q hq with h | h
          · exact .inr (.inl (by simpa using h))
          · rcases fresh3 _ h with h | h | h
            · exact .inr (.inr h)
            · exact .inl h
            · exact .inr (.inl h))
end
section
-- text C10h
open PySem PySem.W PyProof.Rows PySem.Calls
set_option maxHeartbeats 8000000
theorem fold_hit : ∀ (w : World) (mean : ExcName → Option Value) (mg mb : Str → Option Value) (f0 c0 P0 cR lr : Addr) (params : Arguments) (body : PySem.Expr) (scope : Scope) (pos : Pos) (pm ctv : Value) (x : Str) (tx : Tok) (its : List Value) (rs : List (Int × List Part))
    (fr : List Env) (base g : Heap) (s : Shared) (R : Result → Shared → Prop)
    (hE : lamOfFold w.params = some (params, body, scope, pos))
    (tbF : List (Addr × Obj)) (hg : g = hideAll s.heap (tbF.map (·.1))) (hW : WarmF P0 tbF) (htF : ∀ q ∈ tbF, s.heap.get? q.1 = some q.2)
    (hC : CodeHd g c0 P0) (hf : g.get? f0 = some (kla_obj (Str.ofString "<lambda>") (Str.ofString "law.<locals>.<lambda>") params body scope [(Str.ofString "rules", cR)] pm c0 ctv)) (hcd : g.CodeRec (.ref c0) (Str.ofString "law.<locals>.<lambda>"))
    (hR : CellAt g cR (.ref lr)) (hl : g.IsList lr its.toArray) (hlz : its.toArray.size ≤ sizeLine) (hrs : RulesAre g its rs) (hrn : 0 < its.length) (hx : x.cps.all (· < 128) = true)
    (B : Below (AA 310 100 fr) base fr g) (X : (Mine.heap39 w.params).In g) (T : Top topProg looseG mean mg mb g)
    (hret : ∀ (h' : Heap) (tk' : Nat) (u : Tok) (tb' : List (Addr × Obj)), (∀ b o, g.get? b = some o → h'.get? b = some o) → WarmF P0 tb' → (∀ q ∈ tb', h'.get? q.1 = some q.2) → (∀ q ∈ tb', q.1 ∈ tbF.map (·.1) ∨ s.heap.get? q.1 = none) →
      R (.ok (.ret (.int (Vof rs.reverse x its.length) u))) { s with heap := h', toks := tk' }),
    codeAny (model PySem.Challenge.rw_in0045_01.row.prog w) (AA 310 100 fr) (.call (.ref f0) ⟨[.str x tx], []⟩) R s := by
  k_fill
  intro w mean mg mb f0 c0 P0 cR lr params body scope pos pm ctv x tx its rs fr base g s R hE tbF hg hW htF hC hf hcd hR hl hlz hrs hrn hx B X T hret
  cases hE
  obtain ⟨c1, oc1, vs1, t1, tbW, rfl, hWm, d1, d2, nP, nW⟩ := hW
  obtain ⟨c, oc, vs3, t3, rfl, nc, d3, d4⟩ := hWm
  refine' enterL1 (tb := [(P0, tabObj #[rawInt 187, rawInt 31, .ref c1]), (c1, oc1), (118, tabObj #[rawInt 163, rawInt 32, .ref c]), (c, oc)]) (n := Str.ofString "name") (v := .str x tx) g hg ?k3 T (of_hideAll _ (hg ▸ hf)) (hcd.keeps fun b o e => of_hideAll _ (hg ▸ e)) ?k8 ?k9 ?kl ?kc ?kp ?_ ?c2 ?c3 ?c4
  (case k3 => exact htF)
  (case k8 => exact Nat.le_of_ble_eq_true rfl)
  (case k9 => exact rfl)
  (case kl => exact rfl)
  (case kc => intro k; rfl)
  (case kp => intro h; rfl)
  (case c2 => exact rfl)
  (case c3 => exact rfl)
  (case c4 => exact rfl)
  intro L' h' o' F' N' d' l0
  k_lt l0
  repeat' (first | walk1 | (dsimp only; walk1))
  refine Stop.out ?_
  rename_i f1 ct1 h1' tk1 F1 N1 lB D1 h3 F9 N9 lC
  clear F1 N1
  have hN8 : News g L' h3 [(118, tabObj #[rawInt 163, rawInt 32, .ref c]), (c, oc)] := fun q hq => by
    rcases List.mem_cons.mp hq with rfl | hq
    · exact N9 _ (by k_mem)
    · rw [List.mem_singleton.mp hq]; exact N9 _ (by k_mem)
  refine wpAny_call ?_
  refine' useT (tb := [(118, tabObj #[rawInt 163, rawInt 32, .ref c]), (c, oc)]) (d := 320) (u := 200) B F9 hN8 X T ?hA ?hf ?hk ?hh ?hd ?hu ?_
  (case hA => exact rfl)
  (case hf => exact rfl)
  (case hk => exact rfl)
  (case hh => exact rfl)
  (case hd => exact Nat.le_of_ble_eq_true rfl)
  (case hu => exact Nat.le_of_ble_eq_true rfl)
  intro g' hg' st B9 X9 T9
  have nWc : c ≠ P0 ∧ c ≠ c1 := nW (c, oc) (.tail _ (.head _))
  have nW8 : 118 ≠ P0 ∧ 118 ≠ c1 := nW (118, _) (.head _)
  have up : ∀ b o, b ≠ 118 → b ≠ c → h3.get? b = some o → g'.get? b = some o := fun b o hb hb2 e => by
    rw [hg']
    refine hideAll_get _ e (fun q => ?_)
    rcases List.mem_cons.mp q with q | q
    · exact hb q
    · exact hb2 (List.mem_singleton.mp q)
  have gD1 := up _ _ (Nat.ne_of_gt lC.2.2.2.2.1) (Nat.ne_of_gt lC.2.2.2.2.2) (N9.get (a := D1) (by k_mem))
  have gf1 := up _ _ (Nat.ne_of_gt lB.2.2.2.1) (Nat.ne_of_gt lB.2.2.2.2) (N9.get (a := f1) (by k_mem))
  have gc1 := up _ _ (Ne.symm nW8.2) (Ne.symm nWc.2) (N9.get (a := c1) (by k_mem))
  have gL1 := up _ _ (Nat.ne_of_gt (Nat.lt_succ_of_lt l0.2.2.1)) (Nat.ne_of_gt (Nat.lt_succ_of_lt l0.2.2.2)) (N9.get (a := L' + 1) (by k_mem))
  have eD : (its.toArray.toList.reverse).toArray = its.reverse.toArray := by simp
  have hD : g'.IsList D1 its.reverse.toArray := ⟨_, gD1, rfl, 0, by rw [← eD]⟩
  refine reduce_list_spec w mean mg mb f1 D1 its.reverse (Vof rs.reverse x) _ [(118, tabObj #[rawInt 163, rawInt 32, .ref c]), (c, oc)] _ base g' _ _ hg' (.inr ⟨c, oc, vs3, t3, rfl, nc, d3, d4⟩) (fun q hq => (hN8 q hq).1) ⟨_, _, _, _, gf1⟩ (by rw [List.length_reverse]; exact hrn) hD ?hrefs B9 X9 T9 ?hf ?hret
  (case hrefs => intro i v e; obtain ⟨r, _, a, _, _, _, e, _⟩ := hrs.reverse.get e; exact ⟨a, e⟩)
  (case hf =>
    intro i a u tb s' fr' R' g2 hv hg2 hts htb st2 B2 X2 T2 hret2
    obtain ⟨r, hr, a', t, lp, vs, e, hla, hlp, hvs, hps⟩ := hrs.reverse.get hv
    cases e
    have k2 : ∀ b o, g.get? b = some o → g2.get? b = some o := fun b o e => st2 _ _ (st _ _ e)
    have hla2 : g2.IsList a #[.int r.1 t, .ref lp] := let ⟨o, o1, o2⟩ := hla; ⟨o, k2 _ _ o1, o2⟩
    have hlp2 : g2.IsList lp vs.toArray := let ⟨o, o1, o2⟩ := hlp; ⟨o, k2 _ _ o1, o2⟩
    have hcc : CellAt g2 (L' + 1) (.str x tx) := ⟨o', st2 _ _ gL1, d'⟩
    have ho := of_hideAll _ (hg2 ▸ st2 _ _ gf1)
    have hcd2 : s'.heap.CodeRec (.ref c1) (Str.ofString "law.<locals>.<lambda>.<locals>.<lambda>") := ⟨c1, oc1, vs1, t1, rfl, of_hideAll _ (hg2 ▸ st2 _ _ gc1), d1, d2⟩
    clear F9 N9 hN8 B9 X9 T9 hD gD1 gf1 gc1 gL1 up st st2 k2 hla hlp hl hR hf hcd hC B X T hrs
    refine' enterL (tb := tb) (binds := [(Str.ofString "told", .int (Vof rs.reverse x i) u), (Str.ofString "rule", .ref a)]) g2 hg2 htb T2 ho hcd2 ?k8 ?k9 ?kB ?_ ?c2 ?c3 ?c4 ?c5
    (case k8 => exact Nat.le_of_ble_eq_true rfl)
    (case k9 => exact rfl)
    (case kB => exact locs rfl)
    (case c2 => exact rfl)
    (case c3 => exact rfl)
    (case c4 => exact rfl)
    (case c5 => decide)
    intro L2 h2 F2 N2 l2
    repeat' (first | walk1 | (dsimp only; walk1))
    refine Stop.out ?_
    refine wpAny_call ?_
    refine' useT (tb := tb) (d := 340) (u := 400) B2 F2 N2 X2 T2 ?hA ?hf ?hk ?hh ?hd ?hu ?_
    (case hA => exact rfl)
    (case hf => exact rfl)
    (case hk => exact rfl)
    (case hh => exact rfl)
    (case hd => exact Nat.le_of_ble_eq_true rfl)
    (case hu => exact Nat.le_of_ble_eq_true rfl)
    intro g3 hg3 st3 B3 X3 T3
    refine takes_spec w mean mg mb lp vs r.2 x tx tb _ base g3 _ _ hg3 hts (fun q hq => (N2 q hq).1) (let ⟨o, o1, o2⟩ := hlp2; ⟨o, st3 _ _ o1, o2⟩) hvs hps hx B3 X3 T3 ?_
    intro h4 tk4 tb4 k4 ts4
    have N2' : News g2 L2 h2 (tb ++ []) := by rw [List.append_nil]; exact N2
    obtain ⟨F4, N4⟩ := after_tab F2 N2' (fun p hp => nomatch hp) (hg3 ▸ k4) ts4
    have hc4 := CumT.step hg2 F2 N2' (CumT.start hts) ts4
    have hV := Vof_succ (x := x) hr
    clear F2 N2 N2' B3 X3 T3
    rw [List.append_nil] at N4
    have ts5 : ∀ h5, News g2 L2 h5 tb4 → TabStep s'.heap h5 tb tb4 := fun h5 N5 => ⟨ts4.st, fun q hq => (N5 q hq).1, hc4.2.1, hc4.2.2⟩
    cases htk : takesF r.2 x with
    | true =>
      rw [htk, if_pos rfl] at hV
      repeat' (first | walk1 | (dsimp only; walk1))
      all_goals ((rename Fr _ _ _ _ => F5); (rename News _ _ _ _ => N5); (have q5 := fun tk u => hret2 _ tk tb4 u F5.keep (ts5 _ N5)); (simp only [hV] at q5); exact q5 _ _)
    | false =>
      rw [htk, if_neg (by decide)] at hV
      repeat' (first | walk1 | (dsimp only; walk1))
      all_goals ((rename Fr _ _ _ _ => F5); (rename News _ _ _ _ => N5); (have q5 := fun tk u => hret2 _ tk tb4 u F5.keep (ts5 _ N5)); (simp only [hV] at q5); exact q5 _ _))
  (case hret =>
    intro h' tk' tb' u' k ts
    have keepg : ∀ b o, g.get? b = some o → h'.get? b = some o := fun b o e => k _ _ (st _ _ e)
    have hts := ts.fresh
    have gP3 : h3.get? P0 = some (tabObj #[rawInt 187, rawInt 31, .ref c1]) := N9.get (by k_mem)
    have gc3 : h3.get? c1 = some oc1 := N9.get (by k_mem)
    have gP := up _ _ (Ne.symm nW8.1) (Ne.symm nWc.1) gP3
    simp only [List.length_reverse]
    refine hret h' tk' u' ((P0, tabObj #[rawInt 187, rawInt 31, .ref c1]) :: (c1, oc1) :: tb') keepg ⟨c1, oc1, vs1, t1, tb', rfl, ts.st, d1, d2, nP, fun q hq => ?_⟩ (fun q hq => ?_) (fun q hq => ?_)
    · rcases hts q hq with h | h
      · obtain ⟨p, hp, e⟩ := List.mem_map.mp h
        rw [← e]; exact nW p hp
      · exact ⟨fun e => by (rw [e, gP3] at h; cases h), fun e => by (rw [e, gc3] at h; cases h)⟩
    · rcases List.mem_cons.mp hq with rfl | hq
      · exact k _ _ gP
      · rcases List.mem_cons.mp hq with rfl | hq
        · exact k _ _ gc1
        · exact ts.at' q hq
    · rcases List.mem_cons.mp hq with rfl | hq
      · exact .inl (.head _)
      · rcases List.mem_cons.mp hq with rfl | hq
        · exact .inl (.tail _ (.head _))
        · rcases hts q hq with h | h
          · exact .inl (.tail _ (.tail _ h))
          · by_cases hb : q.1 ∈ List.map (·.1) [(P0, tabObj #[rawInt 187, rawInt 31, .ref c1]), (c1, oc1), (118, tabObj #[rawInt 163, rawInt 32, .ref c]), (c, oc)]
            · exact .inl hb
            · right
              cases e : s.heap.get? q.1 with
              | none => rfl
              | some o =>
                have := F9.keep _ _ (show g.get? q.1 = some o by rw [hg]; exact hideAll_get _ e hb)
                rw [h] at this; cases this)
end
section
-- text N77
open PySem PySem.W PyProof.Rows PySem.Calls
set_option maxHeartbeats 8000000
/-- a code object whose nested codes stand at P -/
inductive CodeOb (o : Obj) (P : Addr) : Prop
  | mk (vs : Array Value) (file : Str) (tf : Tok) (flags : Int) (tg : Tok) (inF : Bool) (text : Int) (tt : Tok) (a1 : o.cls = .type "code") (a2 : o.data = .fields vs) (a3 : vs[11]? = some (.ref P)) (a4 : vs.getD 11 .none = .ref P) (a5 : vs.getD 18 .none = .str file tf)
    (a6 : vs.getD 7 .none = .int flags tg) (a7 : vs.getD 9 .none = .bool inF) (a8 : vs.getD 10 .none = .int text tt) : CodeOb o P
theorem CodeOb.hd {o : Obj} {h : Heap} {c P : Addr} (x : CodeOb o P) (e : h.get? c = some o) (n : c ≠ P) : CodeHd h c P :=
  let ⟨vs, file, tf, flags, tg, inF, text, tt, a1, a2, a3, a4, a5, a6, a7, a8⟩ := x; ⟨o, vs, file, tf, flags, tg, inF, text, tt, e, a1, a2, a3, a4, a5, a6, a7, a8, n⟩
theorem CodeOb.of {o : Obj} {h : Heap} {c P : Addr} (x : CodeHd h c P) (e : h.get? c = some o) : CodeOb o P ∧ c ≠ P := by
  obtain ⟨o', vs, file, tf, flags, tg, inF, text, tt, e', a1, a2, a3, a4, a5, a6, a7, a8, n⟩ := x
  rw [e] at e'; cases e'
  exact ⟨⟨vs, file, tf, flags, tg, inF, text, tt, a1, a2, a3, a4, a5, a6, a7, a8⟩, n⟩
section
variable {M : Model} {A : Around} {E : Value → Shared → Prop} {s : Shared} {h₀ : Heap} {L a c P : Addr} {m mg mb : Str → Option Value} {cn : Str} {cs : Scope} {ccd : Value} {cl : List (Str × Addr)} {news : List (Addr × Obj)} {g : Obj → List (Addr × Obj)}
  {p : Program} {loose : List Str} {mean : ExcName → Option Value} {name qual : Str} {params : Arguments} {body : Expr} {scope : Scope} {ps : Array Value} {pos : Pos} {firstLine : Nat} {clos : List (Str × Addr)} {env : Env}
theorem kla_makeTail2 {Q : Value → Shared → Prop} {q : Str × Addr} {r : List (Str × Addr)} (hcl : closureFor scope env = pure (q :: r)) (hge0 : env.globals = mainGlobals) (hg : s.heap.Ns mainGlobals mg) (hcode : env.code = .ref c) (C : CodeHd s.heap c P) (hP : s.heap.get? P = some (tabObj ps)) (ht : TriplesOk ps.toList)
    (hnf : codeAmong pos ps.toList = none) (hgP : mainGlobals ≠ P) (hb : s.heap.BuiltinsAt mg P)
    (h : ∀ c' P' ctv h' tk, Heap.ExtBut P s.heap h' → s.heap.objs.size ≤ c' → c' < h'.objs.size → h'.CodeRec (.ref c') qual → h'.get? P = some (tabObj (ps ++ #[rawInt pos.line, rawInt pos.col, .ref c'])) →
      s.heap.objs.size ≤ P' → h'.get? P' = some (tabObj #[]) → CodeHd h' c' P' →
      Q (.ref h'.objs.size) { s with heap := h'.push (kla_obj name qual params body scope (q :: r) ((mg "__name__").getD .none) c' ctv), toks := tk }) :
    wpAny M A (makeTail name qual params (.expr body) scope env .none .none none pos firstLine) Q E s := by
  obtain ⟨bm, ob, hbm, hne0, _, hneP, hbo, hcls, hdict, hdata⟩ := hb
  unfold makeTail
  rw [hcl, hge0]
  refine wpAny_bind (wpAny_pure ?_)
  simp only [List.isEmpty_cons, Bool.false_eq_true, if_false]
  refine wpAny_bind (wpAny_newTextTuple ?_)
  refine wpAny_bind (wpAny_functionCodeX hcode ((C.keeps fun b o e => Heap.get?_push_of_some _ e).code (Heap.get?_push_of_some _ hP) ht) ((C.keeps fun b o e => Heap.get?_push_of_some _ e).tab (Heap.get?_push_of_some _ hP)) hnf fun c' h' tk hx hge hlt _ hrec htb hin => ?_)
  obtain ⟨P', hP', hic, htc⟩ := hin
  have hg' := (hg.push _).extBut hx hgP
  have hx' : Heap.ExtBut P s.heap h' := fun b o hb' e => hx b o hb' (Heap.get?_push_of_some _ e)
  have hge' : s.heap.objs.size ≤ c' := Nat.le_trans (by rw [Heap.size_push]; omega) hge
  have hP2 : s.heap.objs.size ≤ P' := Nat.le_trans (by rw [Heap.size_push]; omega) hP'
  refine wpAny_bind (wpAny_builtinsFor hg' hbm hne0 (hx' _ _ hneP hbo) hcls hdict hdata ?_)
  refine wpAny_bind (wpAny_nsGet hg' ?_)
  exact wpAny_bind (wpAny_pure (wpAny_newObj_type (h c' P' _ h' tk hx' hge' hlt hrec htb.2 hP2 htc.2 (CodeHd.of hic htc)) (by size_fits)))
theorem kla_nest2 {Q : Value → Shared → Prop} {q : Str × Addr} {r : List (Str × Addr)} (F : Fr h₀ L s.heap m) (N : News h₀ L s.heap news) (T : Top p loose mean mg mb h₀) (C : CodeHd h₀ c P) (hcd : ccd = .ref c) (U : UpdF P (tabObj ps) news g) (ht : TriplesOk ps.toList) (hnf : codeAmong pos ps.toList = none)
    (hcl : closureFor scope (envX cn cs L a ccd cl) = pure (q :: r))
    (h : ∀ f c' P' oc vs t ctv h' tk, Fr h₀ L h' m →
      News h₀ L h' ((f, kla_obj name qual params body scope (q :: r) ((mg "__name__").getD .none) c' ctv) :: (c', oc) :: (P', tabObj #[]) :: g (tabObj (ps ++ #[rawInt pos.line, rawInt pos.col, .ref c']))) →
      oc.data = .fields vs → vs[1]? = some (.str qual t) → (∀ q ∈ news, q.1 < c') → (∀ q ∈ news, q.1 < P') → c' < f → P' < f → CodeOb oc P' → c' ≠ P' → Q (.ref f) { s with heap := h', toks := tk }) :
    wpAny M A (makeFunction name qual params (.expr body) scope (envX cn cs L a ccd cl) [] [] [] pos firstLine) Q E s := by
  obtain ⟨own, rest, rfl, hgr, h1, h2⟩ := U.split
  have hm := N (P, tabObj ps) (List.mem_append_right _ (.head _))
  have hgs := T.g.keeps F.keep
  obtain ⟨bm, ob, b1, b2, b3, b4, b5, b6⟩ := T.bmain
  have hgP : mainGlobals ≠ P := fun q => by
    obtain ⟨o, es, ep, e, hd, _⟩ := hgs
    rw [q, hm.1] at e; cases e; cases hd
  have hbP : bm ≠ P := fun q => by
    have e := F.keep _ _ b3
    rw [q, hm.1] at e; cases e; cases b4
  have hbG : bm ≠ mainGlobals := fun q => by
    obtain ⟨o, es, ep, e, hd, _⟩ := T.g
    rw [q, e] at b3; cases b3; rw [hd] at b6; cases b6
  rw [makeFunction_eq]
  simp only [List.zip_nil_right, List.filterMap_nil, List.isEmpty_nil, if_true, pure_bind]
  refine kla_makeTail2 (mg := mg) hcl rfl hgs hcd (C.keeps F.keep) hm.1 ht hnf hgP ⟨bm, ob, b1, b2, hbG, hbP, F.keep _ _ b3, b4, b5, b6⟩ fun c' P' ctv h' tk hx hge hlt hrec htb hP' hPo hCd => ?_
  obtain ⟨c₂, oc, vs, t, e2, hoc, hd, hv⟩ := hrec
  cases e2
  have hLs : L < s.heap.objs.size := F.ns.lt
  have hLc : L < c' := Nat.lt_of_lt_of_le hLs hge
  have hLP : L < P' := Nat.lt_of_lt_of_le hLs hP'
  have hPlt : P' < h'.objs.size := Heap.lt_size hPo
  have old : ∀ b o, h₀.get? b = some o → h'.get? b = some o := fun b o e => hx b o (fun q => by rw [q, hm.2.2] at e; cases e) (F.keep b o e)
  have fresh : ∀ b, L < b → h₀.get? b = none := fun b hb => Heap.get?_none_of_le (Nat.le_trans F.above (Nat.le_of_lt hb))
  obtain ⟨ob1, ob2⟩ := CodeOb.of hCd hoc
  refine h h'.objs.size c' P' oc vs t ctv _ tk ⟨(F.ns.extBut hx hm.2.1.symm).push _, fun b o e => Heap.get?_push_of_some _ (old b o e), F.above⟩ (fun q hq => ?_) hd hv
    (fun q hq => Nat.lt_of_lt_of_le (Heap.lt_size (N q hq).1) hge) (fun q hq => Nat.lt_of_lt_of_le (Heap.lt_size (N q hq).1) hP') hlt hPlt ob1 ob2
  rcases List.mem_cons.mp hq with rfl | hq
  · exact ⟨Heap.get?_push_size _ rfl, Nat.ne_of_gt (Nat.lt_trans hLc hlt), fresh _ (Nat.lt_trans hLc hlt)⟩
  · rcases List.mem_cons.mp hq with rfl | hq
    · exact ⟨Heap.get?_push_of_some _ hoc, Nat.ne_of_gt hLc, fresh _ hLc⟩
    · rcases List.mem_cons.mp hq with rfl | hq
      · exact ⟨Heap.get?_push_of_some _ hPo, Nat.ne_of_gt hLP, fresh _ hLP⟩
      rw [hgr] at hq
      rcases List.mem_append.mp hq with hq | hq
      · have n := N q (List.mem_append_left _ hq)
        exact ⟨Heap.get?_push_of_some _ (hx _ _ (h1 q hq) n.1), n.2⟩
      · rcases List.mem_cons.mp hq with rfl | hq
        · exact ⟨Heap.get?_push_of_some _ htb, hm.2⟩
        · have n := N q (List.mem_append_right _ (.tail _ hq))
          exact ⟨Heap.get?_push_of_some _ (hx _ _ (h2 q hq) n.1), n.2⟩
end
theorem apart_hid {h₀ h : Heap} {L a c : Addr} {rest : List (Addr × Obj)} (N : News h₀ L h rest) (hr : ∀ p ∈ rest, p.1 ≠ c) (f : (hideAll h [c]).get? a = none) : Apart rest a := fun p hp q => by
  have e := hideAll_get [c] (N p hp).1 (fun hm => hr p hp (List.mem_singleton.mp hm))
  have q' : p.1 = a := q
  rw [q', f] at e; cases e
theorem apart_of_news {h₀ h : Heap} {L d : Addr} {l : List (Addr × Obj)} (_N : News h₀ L h l) (x : Apart l d) : Apart l d := x
def namesObj (tn : Tok) : Obj := W.listOf #[.str (nm7 0) tn, .str (nm7 1) (tn + 1), .str (nm7 2) (tn + 1 + 1), .str (nm7 3) (tn + 1 + 1 + 1), .str (nm7 4) (tn + 1 + 1 + 1 + 1), .str (nm7 5) (tn + 1 + 1 + 1 + 1 + 1), .str (nm7 6) (tn + 1 + 1 + 1 + 1 + 1 + 1)] 0
/-- what the tail bears behind the call of _law_off -/
structure Tail2 (cs : List Addr) (w : World) (L' nl D9 fo9 cc9 P9 ol9 nl9 : Addr) (ws9 ys os9 : List Value) (xs : List Int) (or9 of9 on9 okn oc9 : Obj) (kr : List (Addr × Obj)) : Prop where
  rules : RulesIn kr ys (xs.map ruleOf)
  away : Away cs kr
  names : ∃ tn, (nl, namesObj tn) ∈ kr
  rlist : (D9, LCg.lst ys) ∈ kr
  crules : (L' + 1 + 1 + 1 + 1 + 1, or9) ∈ kr
  cfold : (L' + 1 + 1 + 1, of9) ∈ kr
  cnames : (L' + 1 + 1, on9) ∈ kr
  cnum : (L' + 1, okn) ∈ kr
  nums : (nl9, W.listOf ws9.toArray 0) ∈ kr
  fold : ∃ params body scope pos pm ctv, lamOfFold w.params = some (params, body, scope, pos) ∧ (fo9, kla_obj (Str.ofString "<lambda>") (Str.ofString "law.<locals>.<lambda>") params body scope [(Str.ofString "rules", L' + 1 + 1 + 1 + 1 + 1)] pm cc9 ctv) ∈ kr
  code : (cc9, oc9) ∈ kr
  ord : ∃ no9, (ol9, lobj os9.toArray no9) ∈ kr
  tabs2 : (∃ vs, (144, tabObj vs) ∈ kr) ∧ ∃ vs, (85, tabObj vs) ∈ kr
theorem opaque3 {h₀ h : Heap} {L : Addr} {a b c : Addr × Obj} {t : List (Addr × Obj)} {P : List (Addr × Obj) → Prop} (N : News h₀ L h (a :: b :: c :: t)) (hp : P t) : ∃ kr, News h₀ L h (a :: b :: c :: kr) ∧ P kr := ⟨t, N, hp⟩
theorem memApL {α : Type} {a : α} {l l' : List α} (h : List.Mem a l) : List.Mem a (l.append l') := List.mem_append_left l' h
theorem memApR {α : Type} {a : α} {l l' : List α} (h : List.Mem a l') : List.Mem a (l.append l') := List.mem_append_right l h
theorem Away.append {cs : List Addr} {k1 k2 : List (Addr × Obj)} (h1 : Away cs k1) (h2 : Away cs k2) : Away cs (k1 ++ k2) := fun c hc p hp => by
  rcases List.mem_append.mp hp with hp | hp
  · exact h1 c hc p hp
  · exact h2 c hc p hp
def ToldIn (kr : List (Addr × Obj)) (zs : List Value) (i : Nat) (f : Nat → Int) : Prop := zs.length = i ∧ ∀ k, k < i → ∃ l t t' n, zs[k]? = some (.ref l) ∧ (l, W.listOf #[.str (nm7 (6 - k)) t, .int (f k) t'] n) ∈ kr
theorem ToldIn.nil {kr : List (Addr × Obj)} {f : Nat → Int} : ToldIn kr [] 0 f := ⟨rfl, fun _ h => absurd h (Nat.not_lt_zero _)⟩
theorem ToldIn.snoc {kr kr' : List (Addr × Obj)} {zs : List Value} {i : Nat} {f : Nat → Int} {l : Addr} {t t' : Tok} {n : Nat} (x : ToldIn kr zs i f) (k : ∀ p ∈ kr, p ∈ kr') (m : (l, W.listOf #[.str (nm7 (6 - i)) t, .int (f i) t'] n) ∈ kr') : ToldIn kr' (zs ++ [.ref l]) (i + 1) f := by
  refine ⟨by rw [List.length_append, x.1]; rfl, fun j hj => ?_⟩
  by_cases e : j < i
  · obtain ⟨l, t, t', n, a1, a2⟩ := x.2 j e
    exact ⟨l, t, t', n, by rw [List.getElem?_append_left (by rw [x.1]; exact e)]; exact a1, k _ a2⟩
  · obtain rfl : j = i := by omega
    have := x.1
    subst this
    exact ⟨l, t, t', n, List.getElem?_concat_length .., m⟩
theorem Tail2.more {cs cs' : List Addr} {w : World} {L' nl D9 fo9 cc9 P9 ol9 nl9 : Addr} {ws9 ys os9 : List Value} {xs : List Int} {or9 of9 on9 okn oc9 : Obj} {kr kr' : List (Addr × Obj)} (x : Tail2 cs w L' nl D9 fo9 cc9 P9 ol9 nl9 ws9 ys os9 xs or9 of9 on9 okn oc9 kr) (k : ∀ p ∈ kr, p ∈ kr') (a : Away cs' kr') :
    Tail2 cs' w L' nl D9 fo9 cc9 P9 ol9 nl9 ws9 ys os9 xs or9 of9 on9 okn oc9 kr' := by
  obtain ⟨a1, _, ⟨tn, a2⟩, a3, a4, a5, a6, a7, a8, ⟨p1, p2, p3, p4, p5, p6, e, a9⟩, a10, ⟨no, a11⟩, ⟨v1, a12⟩, v2, a13⟩ := x
  exact ⟨a1.more k, a, ⟨tn, k _ a2⟩, k _ a3, k _ a4, k _ a5, k _ a6, k _ a7, k _ a8, ⟨p1, p2, p3, p4, p5, p6, e, k _ a9⟩, k _ a10, ⟨no, k _ a11⟩, ⟨v1, k _ a12⟩, v2, k _ a13⟩
def TabsIn (kr : List (Addr × Obj)) : Prop := ∀ c ∈ [144, 118, 85], ∃ vs, ((c : Addr), tabObj vs) ∈ kr
theorem TabsIn.more {kr kr' : List (Addr × Obj)} (x : TabsIn kr) (k : ∀ p ∈ kr, p ∈ kr') : TabsIn kr' := fun c hc => let ⟨vs, m⟩ := x c hc; ⟨vs, k _ m⟩
def TabsNow (h : Heap) : Prop := ∀ c ∈ [144, 118, 85], ∃ vs, h.get? (c : Addr) = some (tabObj vs)
theorem TabsIn.now {h₀ h : Heap} {L : Addr} {kr : List (Addr × Obj)} (x : TabsIn kr) (N : ∀ p ∈ kr, h.get? p.1 = some p.2) : TabsNow h := fun c hc => let ⟨vs, m⟩ := x c hc; ⟨vs, N _ m⟩
def TbSt (i : Nat) (P9 : Addr) (tb : List (Addr × Obj)) : Prop := (i = 0 ∧ tb = [(P9, tabObj #[]), (118, tabObj #[])]) ∨ (0 < i ∧ WarmF P9 tb)
theorem after_tabG {h₀ h h' : Heap} {L : Addr} {m : Str → Option Value} {tb tb' rest : List (Addr × Obj)} (F : Fr h₀ L h m) (N : News h₀ L h (tb ++ rest)) (hr : ∀ p ∈ rest, p.1 ∉ tb.map (·.1))
    (k : ∀ b o, (hideAll h (tb.map (·.1))).get? b = some o → h'.get? b = some o) (hat : ∀ q ∈ tb', h'.get? q.1 = some q.2) (hfr : ∀ q ∈ tb', q.1 ∈ tb.map (·.1) ∨ h.get? q.1 = none) : Fr h₀ L h' m ∧ News h₀ L h' tb' ∧ News h₀ L h' rest := by
  have hL : L ∉ tb.map (·.1) := fun e => by
    obtain ⟨q, hq, e⟩ := List.mem_map.mp e
    exact (N q (List.mem_append_left _ hq)).2.1 e
  have up : ∀ b o, b ∉ tb.map (·.1) → h.get? b = some o → h'.get? b = some o := fun b o hb e => k b o (hideAll_get _ e hb)
  have old : ∀ b o, h₀.get? b = some o → b ∉ tb.map (·.1) := fun b o e hb => by
    obtain ⟨q, hq, e'⟩ := List.mem_map.mp hb
    have := (N q (List.mem_append_left _ hq)).2.2
    rw [e', e] at this; cases this
  refine ⟨⟨?_, fun b o e => up b o (old b o e) (F.keep b o e), F.above⟩, fun p hp => ?_, fun p hp => ?_⟩
  · obtain ⟨oL, a1, a2, hL', a3⟩ := F.ns
    exact ⟨oL, a1, a2, up _ _ hL hL', a3⟩
  · refine ⟨hat p hp, fun e => ?_, ?_⟩
    · rcases hfr p hp with h1 | h1
      · rw [e] at h1; exact hL h1
      · obtain ⟨oL, _, _, hL', _⟩ := F.ns
        rw [e, hL'] at h1; cases h1
    · cases q : h₀.get? p.1 with
      | none => rfl
      | some o =>
        rcases hfr p hp with h1 | h1
        · exact absurd h1 (old _ _ q)
        · have := F.keep _ _ q
          rw [h1] at this; cases this
  · have n := N p (List.mem_append_right _ hp)
    exact ⟨up _ _ (hr p hp) n.1, n.2⟩
theorem nm7_ascii {k : Nat} (h : k < 7) : (nm7 k).cps.all (· < 128) = true := by
  obtain h | h | h | h | h | h | h : k = 0 ∨ k = 1 ∨ k = 2 ∨ k = 3 ∨ k = 4 ∨ k = 5 ∨ k = 6 := lt7 (by first | assumption | omega)
  all_goals (subst h; decide +kernel)
theorem fold_any (w : World) (mean : ExcName → Option Value) (mg mb : Str → Option Value) (f0 c0 P0 cR lr : Addr) (params : Arguments) (body : PySem.Expr) (scope : Scope) (pos : Pos) (pm ctv : Value) (x : Str) (tx : Tok) (its : List Value) (rs : List (Int × List Part))
    (fr : List Env) (base g : Heap) (s : Shared) (R : Result → Shared → Prop) (i : Nat)
    (hE : lamOfFold w.params = some (params, body, scope, pos))
    (tbF : List (Addr × Obj)) (hg : g = hideAll s.heap (tbF.map (·.1))) (hW : TbSt i P0 tbF) (htF : ∀ q ∈ tbF, s.heap.get? q.1 = some q.2) (hne : @LT.lt Nat instLTNat 118 P0)
    (hC : CodeHd g c0 P0) (hf : g.get? f0 = some (kla_obj (Str.ofString "<lambda>") (Str.ofString "law.<locals>.<lambda>") params body scope [(Str.ofString "rules", cR)] pm c0 ctv)) (hcd : g.CodeRec (.ref c0) (Str.ofString "law.<locals>.<lambda>"))
    (hR : CellAt g cR (.ref lr)) (hl : g.IsList lr its.toArray) (hlz : its.toArray.size ≤ sizeLine) (hrs : RulesAre g its rs) (hrn : 0 < its.length) (hx : x.cps.all (· < 128) = true)
    (B : Below (AA 310 100 fr) base fr g) (X : (Mine.heap39 w.params).In g) (T : Top topProg looseG mean mg mb g)
    (hret : ∀ (h' : Heap) (tk' : Nat) (u : Tok) (tb' : List (Addr × Obj)), (∀ b o, g.get? b = some o → h'.get? b = some o) → WarmF P0 tb' → (∀ q ∈ tb', h'.get? q.1 = some q.2) → (∀ q ∈ tb', q.1 ∈ tbF.map (·.1) ∨ s.heap.get? q.1 = none) →
      R (.ok (.ret (.int (Vof rs.reverse x its.length) u))) { s with heap := h', toks := tk' }) :
    codeAny (model PySem.Challenge.rw_in0045_01.row.prog w) (AA 310 100 fr) (.call (.ref f0) ⟨[.str x tx], []⟩) R s := by
  rcases hW with ⟨_, rfl⟩ | ⟨_, hW⟩
  · refine fold_fresh w mean mg mb f0 c0 P0 cR lr params body scope pos pm ctv x tx its rs fr base g s R hE hg (htF _ (.head _)) (htF _ (.tail _ (.head _))) hne hC hf hcd hR hl hlz hrs hrn hx B X T ?_
    intro h' tk' u tb' k w a f
    refine hret h' tk' u tb' k w a fun q hq => ?_
    rcases f q hq with e | e | e
    · exact .inl (by rw [e]; exact .head _)
    · exact .inl (by rw [e]; exact .tail _ (.head _))
    · exact .inr e
  · exact fold_hit w mean mg mb f0 c0 P0 cR lr params body scope pos pm ctv x tx its rs fr base g s R hE tbF hg hW htF hC hf hcd hR hl hlz hrs hrn hx B X T hret
noncomputable def lawAt (P : Params) (k : Nat) : Option (List Stmt × Scope) := match (Mine.heap39 P).lookup 147 with
  | some ⟨_, _, .func fd, _⟩ => (match fd.body with | .stmts b => some (b.drop k, fd.scope) | _ => none)
  | _ => none
noncomputable def toldOf (P : Params) : Option (Expr × Scope × Scope) := match lawAt P 4 with
  | some (.Assign _ (.ListComp elt _ sc _) _ :: _, esc) => some (elt, sc, esc)
  | _ => none
def sng (z : Int) : Str := Txt.replace (Txt.replace (pat z) (Str.ofString "**") (Str.ofString "*")) (Str.ofString "**") (Str.ofString "*")
/-- the first i texts of single -/
def SinAre (xs : List Int) (ws : List Value) (i : Nat) : Prop := ws.length = i ∧ ∀ k z, k < i → xs[k]? = some z → ∃ t, ws[k]? = some (.str (sng z) t)
theorem SinAre.nil {xs : List Int} : SinAre xs [] 0 := ⟨rfl, fun _ _ h => absurd h (Nat.not_lt_zero _)⟩
theorem SinAre.snoc {xs : List Int} {ws : List Value} {i : Nat} {z : Int} {t : Tok} (x : SinAre xs ws i) (h : xs[i]? = some z) : SinAre xs (ws ++ [.str (sng z) t]) (i + 1) := by
  refine ⟨by rw [List.length_append, x.1]; rfl, fun j y hj hy => ?_⟩
  by_cases e : j < i
  · obtain ⟨t, a1⟩ := x.2 j y e hy
    exact ⟨t, by rw [List.getElem?_append_left (by rw [x.1]; exact e)]; exact a1⟩
  · obtain rfl : j = i := by omega
    rw [h] at hy; cases hy
    have := x.1
    subst this
    exact ⟨t, List.getElem?_concat_length ..⟩
theorem pat_len (z : Int) : (pat z).length = 3 := by
  obtain ⟨a, b, c, _, _, _, e⟩ := pat_is z
  rw [e]; rfl
theorem rep_all : (sig4.all fun a => sig4.all fun b => sig4.all fun c => Nat.ble (Txt.replace (tx [a, b, c]) (Str.ofString "**") (Str.ofString "*")).length 3) = true := by decide +kernel
theorem rep_len (z : Int) : (Txt.replace (pat z) (Str.ofString "**") (Str.ofString "*")).length ≤ 3 := by
  obtain ⟨a, b, c, ha, hb, hc, e⟩ := pat_is z
  have t := rep_all
  simp only [List.all_eq_true] at t
  rw [e]
  exact Nat.le_of_ble_eq_true (t a ha b hb c hc)
theorem star_len : (Str.ofString "*").length = 1 := by decide +kernel
end
section
-- text N79
open PySem PySem.W PyProof.Rows PySem.Calls
set_option maxHeartbeats 8000000
section
variable {M : Model} {A : Around} {E : Value → Shared → Prop} {s : Shared} {h₀ : Heap} {L a c P : Addr} {m mg mb : Str → Option Value} {cn : Str} {cs : Scope} {ccd : Value} {cl : List (Str × Addr)} {news : List (Addr × Obj)} {g : Obj → List (Addr × Obj)}
  {p : Program} {loose : List Str} {mean : ExcName → Option Value} {name qual : Str} {params : Arguments} {body : Expr} {scope : Scope} {ps : Array Value} {pos : Pos} {firstLine : Nat} {clos : List (Str × Addr)} {env : Env}
theorem kla_nest2r {Q : Value → Shared → Prop} {q : Str × Addr} {r : List (Str × Addr)} (F : Fr h₀ L s.heap m) (N : News h₀ L s.heap news) (T : Top p loose mean mg mb h₀) (hcd : ccd = .ref c) (C : CodeHd h₀ c P) (U : UpdF P (tabObj ps) news g) (ht : TriplesOk ps.toList) (hnf : codeAmong pos ps.toList = none)
    (hcl : closureFor scope (envX cn cs L a ccd cl) = pure (q :: r))
    (h : ∀ f c' P' oc vs t ctv h' tk, Fr h₀ L h' m →
      News h₀ L h' ((f, kla_obj name qual params body scope (q :: r) ((mg "__name__").getD .none) c' ctv) :: (c', oc) :: (P', tabObj #[]) :: g (tabObj (ps ++ #[rawInt pos.line, rawInt pos.col, .ref c']))) →
      oc.data = .fields vs → vs[1]? = some (.str qual t) → (∀ q ∈ news, q.1 < c') → (∀ q ∈ news, q.1 < P') → c' < f → P' < f → CodeOb oc P' → c' ≠ P' → Q (.ref f) { s with heap := h', toks := tk }) :
    wpAny M A (makeFunction name qual params (.expr body) scope (envX cn cs L a ccd cl) [] [] [] pos firstLine) Q E s := 
  kla_nest2 F N T C hcd U ht hnf hcl h
end
end
section
-- text N84
open PySem PySem.W PyProof.Rows PySem.Calls PySem.Spec PyProof.Rows.LCg PyProof.Rows.LCt
set_option maxHeartbeats 8000000
section
variable {prog : Program} {w : World} {A : Around} {E : Value → Shared → Prop} {s : Shared} {h₀ : Heap} {L : Addr} {m : Str → Option Value} {env : Env}
def SignSrc (prog : Program) (w : World) (A : Around) (h₀ : Heap) (L : Addr) (m : Str → Option Value) (env : Env) (elt : Expr) (x : Str) (scope : Scope) (cl : List (Str × Addr)) (Q : Value → Shared → Prop) (xv : Value) (s₁ : Shared) : Prop :=
  ∃ (y : Str) (t : Tok) (news : List (Addr × Obj)) (J : Nat → List Value → List (Addr × Obj) → Prop), xv = .str y t ∧ y.cps.all (· < 128) = true ∧ A.handled = none ∧ Fr h₀ L s₁.heap m ∧ News h₀ L s₁.heap news ∧ y.cps.size ≤ sizeLine ∧ J 0 [] news ∧
      (∀ i ys news c u I oI C oC D m₂ h tk (E' : Value → Shared → Prop), i < y.cps.size → J i ys news → y.cps[i]? = some c → NsObj oC m₂ → m₂ x = some (.str ⟨#[c]⟩ u) → Fr h₀ L h m → News h₀ L h ((I, oI) :: (C, oC) :: (D, LCg.lst ys) :: news) → Off3 I C D news → ((@Ne Nat I C) ∧ (@Ne Nat I D) ∧ (@Ne Nat C D)) →
        wpAny (model prog w) A (eval elt (compEnvC scope cl C env)) (CompEnd h₀ L m { s₁ with heap := h, toks := tk } I oI C oC D (LCg.lst ys) (fun _ => True) (fun y news' => J (i + 1) (ys ++ [y]) news')) E' { s₁ with heap := h, toks := tk }) ∧
      ∀ ys news', J y.cps.size ys news' → FinE h₀ L m s₁ Q ys news'
/-- a comprehension over the signs of a text, [elt for x in text] -/
theorem comp_signs {elt iter : Expr} {x : Str} {px : Pos} {scope : Scope} {cl : List (Str × Addr)} {pos : Pos} {Q : Value → Shared → Prop}
    (hclos : closureFor scope env = pure cl) (hcell : ∀ y ∈ scope.names, y.2 ≠ .cell) (hkind : scope.kind = .function)
    (hnames : ∀ y ∈ scope.names, y.2 = .local → scope.names.lookup y.1 = some .local) (hx : scope.names.lookup x = some .local)
    (h : wpAny (model prog w) A (eval iter env) (SignSrc prog w A h₀ L m env elt x scope cl Q) E s)
    (hs : ∀ x, foldedSetIterable iter env x = pure x := by intro _; rfl) :
    wpAny (model prog w) A (eval (.ListComp elt [⟨.Name x px, iter, [], 0⟩] scope pos) env) Q E s := by
  rw [eval_ListComp]
  refine wpAny_comprehension_free (use := none) rfl hs hclos hkind hnames (wpAny_mono h (fun xv s₁ h₁ => ?_) fun _ _ e => e)
  obtain ⟨y, t, news, J, rfl, ha, hh, F, N, hsz, h0, turn, fin⟩ := h₁
  refine wpAny_pyIter_ascii ha ?_
  have up : ∀ b o, s₁.heap.get? b = some o → (s₁.heap.push { cls := .type "str_ascii_iterator", data := .fields #[.str y t, .int 0 0] }).get? b = some o := fun b o e => Heap.get?_push_of_some _ e
  refine block_G (ct := none) (S := fun _ => True) (fun i v m'' => m'' x = some v) J (Walks.strAscii hh s₁.heap.objs.size y t) hsz (fun i h st => by obtain ⟨o, e, _⟩ := st; exact ⟨o, e⟩)
    (fun i h h' o nw st e e' _ _ _ => by obtain ⟨o2, e2, r⟩ := st; rw [e] at e2; cases e2; exact ⟨o, e', r⟩) (fun i v s Q E st q => wpAny_pure q) ?_ hcell hkind
    ⟨_, Heap.get?_push_size _ rfl, rfl, rfl⟩ (fun b hb => ?_) (F.keeps up) (N.grown up) (Nat.ne_of_lt F.ns.lt) (next_is_new F) (fun p hp => Nat.ne_of_lt (Heap.lt_size (N p hp).1)) trivial h0 ?_ ?_
  · intro i v ys nw C m' s Q E hi hv hJ N' hn k
    refine wpAny_assign_Name (wpAny_storeName_local (lookup_relabel_local hx) hn (fun h₃ hn₃ hs₃ => ?_) (by simp [compEnvC, relabel, hkind]))
    exact k h₃ _ _ hn₃ (by simp) fun c o hc e => hs₃.extBut c o hc e
  · show b < (s₁.heap.push _).objs.size
    rw [Heap.size_push, List.mem_singleton.mp hb]
    exact Nat.lt_succ_self _
  · intro i ys news v I oI C oC D m₂ h tk E' hi hJ hP hC hx F N off ne
    obtain ⟨c, u, hc, rfl⟩ := hP
    exact turn i ys news c u I oI C oC D m₂ h tk E' hi hJ hc hC hx F N off ne
  · intro D C h tk m' ys news' F' N' o1 hn hC₀ hD₀ hCL hDL hCD offC hJ
    refine ⟨m', hn, fun h'' hs'' => fin ys news' hJ D h'' tk (F'.change hs'' hCL hC₀) (fun p hp => ?_) o1⟩
    refine ⟨hs''.extBut _ _ ?_ (N' p hp).1, (N' p hp).2⟩
    rcases List.mem_cons.mp hp with rfl | hp
    · exact Ne.symm hCD
    · exact offC p hp
end
/-- the datum of one sign under the map {'*': None, '?': 'any'} -/
def cd (c : Nat) : PyData := if c = 42 then .none else if c = 63 then .str (Str.ofString "any") else .str ⟨#[c]⟩
def partD : Part → PyData
  | .star => .none
  | .any => .str (Str.ofString "any")
  | .sign c => .str ⟨#[c]⟩
theorem PAre.carried {vs : List Value} {ps : List Part} (h : PAre vs ps) : CarriedAll vs (ps.map partD) := by
  induction h with
  | nil => exact .nil
  | cons a _ ih =>
    rename_i p _ _ _
    refine .cons ?_ ih
    cases p with
    | star => cases a; exact .none
    | any => obtain ⟨t, rfl⟩ := a; exact .str _ _
    | sign c => obtain ⟨t, rfl⟩ := a; exact .str _ _
theorem CarriedAll.snoc' {vs : List Value} {ds : List PyData} {v : Value} {d : PyData} (h : CarriedAll vs ds) (x : Carried v d) : CarriedAll (vs ++ [v]) (ds ++ [d]) := by
  induction h with
  | nil => exact .cons x .nil
  | cons a _ ih => exact .cons a ih
/-- a row of lists of flat data, that lie in the ledger -/
def ListIn (kr : List (Addr × Obj)) (v : Value) (ds : List PyData) : Prop := ∃ a o vs n, v = .ref a ∧ (a, o) ∈ kr ∧ o.cls = .type "list" ∧ o.data = .seq vs n ∧ CarriedAll vs.toList ds
inductive ListsIn (kr : List (Addr × Obj)) : List Value → List (List PyData) → Prop where
  | nil : ListsIn kr [] []
  | cons {v ds vs dss} : ListIn kr v ds → ListsIn kr vs dss → ListsIn kr (v :: vs) (ds :: dss)
theorem ListIn.more {kr kr' : List (Addr × Obj)} {v : Value} {ds : List PyData} (x : ListIn kr v ds) (k : ∀ p ∈ kr, p ∈ kr') : ListIn kr' v ds := by
  obtain ⟨a, o, vs, n, e, m, r⟩ := x
  exact ⟨a, o, vs, n, e, k _ m, r⟩
theorem ListsIn.more {kr kr' : List (Addr × Obj)} {vs : List Value} {dss : List (List PyData)} (x : ListsIn kr vs dss) (k : ∀ p ∈ kr, p ∈ kr') : ListsIn kr' vs dss := by
  induction x with
  | nil => exact .nil
  | cons a _ ih => exact .cons (a.more k) ih
theorem ListsIn.snoc {kr : List (Addr × Obj)} {vs : List Value} {dss : List (List PyData)} {v : Value} {ds : List PyData} (x : ListsIn kr vs dss) (y : ListIn kr v ds) : ListsIn kr (vs ++ [v]) (dss ++ [ds]) := by
  induction x with
  | nil => exact .cons y .nil
  | cons a _ ih => exact .cons a ih
theorem ListsIn.reads {kr : List (Addr × Obj)} {vs : List Value} {dss : List (List PyData)} {h : Heap} (x : ListsIn kr vs dss) (k : ∀ p ∈ kr, h.get? p.1 = some p.2) : ∃ as, ReadsAll h vs (dss.map .list) as := by
  induction x with
  | nil => exact ⟨_, .nil⟩
  | cons a _ ih =>
    obtain ⟨as, ih⟩ := ih
    obtain ⟨b, o, vs, n, rfl, hm, hc, hd, hv⟩ := a
    exact ⟨_, .cons (.list (k _ hm) hc hd (hv.reads h)) ih⟩
theorem ListsIn.length {kr : List (Addr × Obj)} {vs : List Value} {dss : List (List PyData)} (x : ListsIn kr vs dss) : vs.length = dss.length := by
  induction x with
  | nil => rfl
  | cons _ _ ih => simp [ih]
def flatD (d : PyData) : Bool := match d with
  | .none => true
  | .int _ => true
  | .str x => PyData.strOk x
  | _ => false
theorem flat_lay : ∀ {ds : List PyData}, ds.all flatD = true → PyData.canLayAll0 ds = true ∧ PyData.depthAll ds = 0 ∧ SeqAt.noMixAll ds ds = true
  | [], _ => ⟨rfl, rfl, rfl⟩
  | d :: ds, h => by
    simp only [List.all_cons, Bool.and_eq_true] at h
    obtain ⟨a, b, c⟩ := flat_lay h.2
    cases d with
    | none => exact ⟨by simpa [PyData.canLayAll0, PyData.canLay0] using a, by simpa [PyData.depthAll, PyData.depth] using b, by simpa [SeqAt.noMixAll, SeqAt.noMix] using c⟩
    | int i => exact ⟨by simpa [PyData.canLayAll0, PyData.canLay0] using a, by simpa [PyData.depthAll, PyData.depth] using b, by simpa [SeqAt.noMixAll, SeqAt.noMix] using c⟩
    | str x => exact ⟨by simpa [PyData.canLayAll0, PyData.canLay0, a, flatD] using h.1, by simpa [PyData.depthAll, PyData.depth] using b, by simpa [SeqAt.noMixAll, SeqAt.noMix] using c⟩
    | bool b => exact absurd h.1 (by simp [flatD])
    | list b => exact absurd h.1 (by simp [flatD])
    | tuple b => exact absurd h.1 (by simp [flatD])
    | dict b => exact absurd h.1 (by simp [flatD])
theorem rows_lay : ∀ {dss : List (List PyData)}, (∀ ds ∈ dss, ds.all flatD = true) → PyData.canLayAll0 (dss.map .list) = true ∧ PyData.depthAll (dss.map .list) ≤ 1 ∧ SeqAt.noMixAll (dss.map .list) (dss.map .list) = true
  | [], _ => ⟨rfl, Nat.zero_le _, rfl⟩
  | ds :: dss, h => by
    obtain ⟨a, b, c⟩ := rows_lay (dss := dss) fun x hx => h x (.tail _ hx)
    obtain ⟨a', b', c'⟩ := flat_lay (h ds (.head _))
    refine ⟨?_, ?_, ?_⟩
    · simp [PyData.canLayAll0, PyData.canLay0, a, a']
    · simp only [List.map_cons, PyData.depthAll, PyData.depth, b']; omega
    · simp [SeqAt.noMixAll, SeqAt.noMix, c, c']
theorem rows_shaped {dss : List (List PyData)} (h : ∀ ds ∈ dss, ds.all flatD = true) : SeqAt.shaped (.list (dss.map .list)) = true := by
  obtain ⟨a, b, _⟩ := rows_lay h
  unfold SeqAt.shaped
  rw [Bool.and_eq_true, PyData.canLay0, PyData.depth]
  exact ⟨a, decide_eq_true (by omega)⟩
theorem rows_noMix {dss : List (List PyData)} (h : ∀ ds ∈ dss, ds.all flatD = true) : SeqAt.noMix (.list (dss.map .list)) (.list (dss.map .list)) = true := by
  rw [SeqAt.noMix]; exact (rows_lay h).2.2
/-- the comparison of two rows of rows of the same data -/
theorem eq_rows {prog : Program} {w : World} {A : Around} {E : Value → Shared → Prop} {s : Shared} {h₀ : Heap} {L a b : Addr} {vs ws : List Value} {news : List (Addr × Obj)} {dss : List (List PyData)} {Q : Value → Shared → Prop} (N : News h₀ L s.heap news)
    (ma : (a, LCg.lst vs) ∈ news) (mb : (b, LCg.lst ws) ∈ news) (la : ListsIn news vs dss) (lb : ListsIn news ws dss) (hf : ∀ ds ∈ dss, ds.all flatD = true) (hu : A.units + 64 < cLine) (h : Q (.bool true) s) :
    wpAny (model prog w) A (compareOp .Eq (.ref a) (.ref b)) Q E s := by
  obtain ⟨as, ra⟩ := la.reads (h := s.heap) fun p hp => (N p hp).1
  obtain ⟨bs, rb⟩ := lb.reads (h := s.heap) fun p hp => (N p hp).1
  exact eq_dataH_same (.list (N _ ma).1 rfl rfl (by simpa using ra)) (.list (N _ mb).1 rfl rfl (by simpa using rb)) (rows_shaped hf) (rows_shaped hf) hu (rows_noMix hf) (by rw [same_refl]; exact h)
theorem ne_rows {prog : Program} {w : World} {A : Around} {E : Value → Shared → Prop} {s : Shared} {h₀ : Heap} {L a b : Addr} {vs ws : List Value} {news : List (Addr × Obj)} {dss : List (List PyData)} {Q : Value → Shared → Prop} (N : News h₀ L s.heap news)
    (ma : (a, LCg.lst vs) ∈ news) (mb : (b, LCg.lst ws) ∈ news) (la : ListsIn news vs dss) (lb : ListsIn news ws dss) (hf : ∀ ds ∈ dss, ds.all flatD = true) (hu : A.units + 64 < cLine) (h : Q (.bool false) s) :
    wpAny (model prog w) A (compareOp .NotEq (.ref a) (.ref b)) Q E s := by
  obtain ⟨as, ra⟩ := la.reads (h := s.heap) fun p hp => (N p hp).1
  obtain ⟨bs, rb⟩ := lb.reads (h := s.heap) fun p hp => (N p hp).1
  exact ne_dataH_same (.list (N _ ma).1 rfl rfl (by simpa using ra)) (.list (N _ mb).1 rfl rfl (by simpa using rb)) (rows_shaped hf) (rows_shaped hf) hu (rows_noMix hf) (by rw [same_refl]; exact h)
def sgp (p : Str) : Str := Txt.replace (Txt.replace p (Str.ofString "**") (Str.ofString "*")) (Str.ofString "**") (Str.ofString "*")
def flatB : PyData → PyData → Bool
  | .none, .none => true
  | .str x, .str y => x.cps == y.cps
  | _, _ => false
noncomputable def flatsB : List PyData → List PyData → Bool
  | [], [] => true
  | x :: xs, y :: ys => flatB x y && flatsB xs ys
  | _, _ => false
theorem flatB_eq : ∀ {x y : PyData}, flatB x y = true → x = y
  | .none, .none, _ => rfl
  | .str x, .str y, h => by
    have : x.cps = y.cps := by simpa [flatB] using h
    cases x; cases y; cases this; rfl
theorem flatsB_eq : ∀ {xs ys : List PyData}, flatsB xs ys = true → xs = ys
  | [], [], _ => rfl
  | x :: xs, y :: ys, h => by
    simp only [flatsB, Bool.and_eq_true] at h
    rw [flatB_eq h.1, flatsB_eq h.2]
theorem parts_all : (sig4.all fun a => sig4.all fun b => sig4.all fun c => (flatsB ((trans [a, b, c]).map partD) ((sgp (tx [a, b, c])).cps.toList.map cd)) && ((sgp (tx [a, b, c])).cps.toList.all fun c => sig4.contains c) && ((sgp (tx [a, b, c])).cps.toList.map cd).all flatD) = true := by decide +kernel
theorem sng_signs (z : Int) : (trans (pat z).cps.toList).map partD = (sng z).cps.toList.map cd ∧ (∀ c ∈ (sng z).cps.toList, c = 97 ∨ c = 98 ∨ c = 63 ∨ c = 42) ∧ ((sng z).cps.toList.map cd).all flatD = true := by
  obtain ⟨a, b, c, ha, hb, hc, e⟩ := pat_is z
  have t := parts_all
  simp only [List.all_eq_true, Bool.and_eq_true] at t
  have t' := t a ha b hb c hc
  have e' : sng z = sgp (tx [a, b, c]) := by unfold sng sgp; rw [e]
  rw [e', e]
  refine ⟨flatsB_eq t'.1.1, fun d hd => ?_, by simpa only [List.all_eq_true] using t'.2⟩
  have := t'.1.2 d hd
  simpa [sig4] using this
theorem sng_ascii (z : Int) : (sng z).cps.all (· < 128) = true := by
  rw [← Array.all_toList, List.all_eq_true]
  intro c hc
  rcases (sng_signs z).2.1 c hc with rfl | rfl | rfl | rfl <;> rfl
theorem sng_size (z : Int) : (sng z).cps.size ≤ 3 := by
  obtain ⟨a, b, c, ha, hb, hc, e⟩ := pat_is z
  have t : (sig4.all fun a => sig4.all fun b => sig4.all fun c => Nat.ble (sgp (tx [a, b, c])).cps.size 3) = true := by decide +kernel
  simp only [List.all_eq_true] at t
  have e' : sng z = sgp (tx [a, b, c]) := by unfold sng sgp; rw [e]
  rw [e']
  exact Nat.le_of_ble_eq_true (t a ha b hb c hc)
/-- what the left side of the comparison bears -/
def ruleD (r : Int × List Part) : List PyData := r.2.map partD
theorem RulesIn.get {kr : List (Addr × Obj)} {vs : List Value} {rs : List (Int × List Part)} (x : RulesIn kr vs rs) : ∀ {i : Nat} {v : Value}, vs[i]? = some v → ∃ r, rs[i]? = some r ∧ RuleIn kr v r := by
  induction x with
  | nil => intro i v h; simp at h
  | cons a _ ih =>
    intro i v h
    cases i with
    | zero => simp at h; subst h; exact ⟨_, by simp, a⟩
    | succ i => exact ih (by simpa using h)
theorem get_sign {prog : Program} {w : World} {A : Around} {E : Value → Shared → Prop} {s : Shared} {g : Heap} {L d : Addr} {o : Obj} {news : List (Addr × Obj)} {c : Nat} {u t1 t2 t3 : Tok} {Q : Value → Shared → Prop} (hc : c = 97 ∨ c = 98 ∨ c = 63 ∨ c = 42)
    (N : News g L s.heap ((d, o) :: news)) (lo : (d == sysModules) = false) (hd : Obj.IsDictOf (PySem.strKind prog w) o (strPairs [(Value.str (Str.ofString "*") t1, Value.none), (Value.str (Str.ofString "?") t2, Value.str (Str.ofString "any") t3)]))
    (hf : PyProof.V.FlatPairs PyData.str (strPairs [(Value.str (Str.ofString "*") t1, Value.none), (Value.str (Str.ofString "?") t2, Value.str (Str.ofString "any") t3)]) (strData [(Value.str (Str.ofString "*") t1, Value.none), (Value.str (Str.ofString "?") t2, Value.str (Str.ofString "any") t3)]))
    (h : ∀ v, Carried v (cd c) → Q v { s with toks := s.toks + 1 }) : wpAny (model prog w) A (call (.builtin "dict.get") [.ref d, .str ⟨#[c]⟩ u, .str ⟨#[c]⟩ u]) Q E s := by
  refine call_get2_strTab (dd := .str ⟨#[c]⟩) ⟨lo, _, PySem.Heap.dictOf_iff.mpr ⟨_, (N _ (.head _)).1, hd⟩, hf⟩ (PyProof.V.Flat.str _ _) fun v hv => h v ?_
  clear hd hf h
  rcases hc with rfl | rfl | rfl | rfl
  · have e : (lookup (.str ⟨#[97]⟩) (strData [(Value.str (Str.ofString "*") t1, Value.none), (Value.str (Str.ofString "?") t2, Value.str (Str.ofString "any") t3)])).getD (.str ⟨#[97]⟩) = .str ⟨#[97]⟩ := by kernel_rfl
    rw [e] at hv
    obtain ⟨t, rfl⟩ := PyProof.V.Flat.str_inv hv
    exact .str _ _
  · have e : (lookup (.str ⟨#[98]⟩) (strData [(Value.str (Str.ofString "*") t1, Value.none), (Value.str (Str.ofString "?") t2, Value.str (Str.ofString "any") t3)])).getD (.str ⟨#[98]⟩) = .str ⟨#[98]⟩ := by kernel_rfl
    rw [e] at hv
    obtain ⟨t, rfl⟩ := PyProof.V.Flat.str_inv hv
    exact .str _ _
  · have e : (lookup (.str ⟨#[63]⟩) (strData [(Value.str (Str.ofString "*") t1, Value.none), (Value.str (Str.ofString "?") t2, Value.str (Str.ofString "any") t3)])).getD (.str ⟨#[63]⟩) = .str (Str.ofString "any") := by kernel_rfl
    rw [e] at hv
    obtain ⟨t, rfl⟩ := PyProof.V.Flat.str_inv hv
    exact .str _ _
  · have e : (lookup (.str ⟨#[42]⟩) (strData [(Value.str (Str.ofString "*") t1, Value.none), (Value.str (Str.ofString "?") t2, Value.str (Str.ofString "any") t3)])).getD (.str ⟨#[42]⟩) = .none := by kernel_rfl
    rw [e] at hv
    obtain rfl := PyProof.V.Flat.none_inv hv
    exact .none
end
section
-- text N86
open PySem PySem.W PyProof.Rows PySem.Calls PySem.Spec PyProof.Rows.LCg PyProof.Rows.LCt
set_option maxHeartbeats 8000000
section
variable {M : Model} {A : Around} {E : Value → Shared → Prop} {s : Shared}
theorem newEnv_cell {scope : Scope} {globals : Addr} {cl : List (Str × Addr)} {qual : Str} {env : Env} {Q : Env → Shared → Prop} {n0 x z : Str} (hnm : scope.names = [(n0, .local), (x, .cell), (z, .free)])
    (hQ : Q { scope, locals := s.heap.objs.size, globals, cells := (x, s.heap.objs.size + 1) :: cl, qual, func := none, code := env.code, frame := env.frame, builtins := env.builtins }
      { s with heap := (s.heap.push { cls := .type "dict", data := .dict #[] }).push { cls := .type "cell", data := .cell none } }) :
    wpAny M A (newFunctionEnv scope globals cl [] qual none .none (some env)) Q E s := by
  simp only [newFunctionEnv, Option.isSome_some, if_true]
  refine wpAny_bind (wpAny_alloc ?_)
  rw [hnm]
  simp only [List.forIn_cons, List.forIn_nil]
  refine wpAny_bind (wpAny_bind ?_)
  refine wpAny_pure ?_
  have e1 : (NameKind.cell == NameKind.cell) = true := rfl
  have e2 : (NameKind.free == NameKind.cell) = false := rfl
  simp only [e1, e2, if_true, Bool.false_eq_true, if_false]
  refine wpAny_bind (wpAny_bind (wpAny_alloc (wpAny_pure ?_)))
  refine wpAny_bind (wpAny_pure ?_)
  refine wpAny_pure ?_
  have hsz : (s.heap.push { cls := .type "dict", data := .dict #[] }).objs.size = s.heap.objs.size + 1 := Heap.size_push ..
  refine wpAny_bind (wpAny_pure ?_)
  refine wpAny_pure ?_
  show Q { scope, locals := s.heap.objs.size, globals, cells := (x, (s.heap.push { cls := .type "dict", data := .dict #[] }).objs.size) :: cl, qual, func := none, code := env.code, frame := env.frame, builtins := env.builtins } _
  rw [hsz]
  exact hQ
end
section
variable {prog : Program} {w : World} {A : Around} {E : Value → Shared → Prop} {s : Shared} {h₀ : Heap} {L : Addr} {m : Str → Option Value} {env : Env}
def CellSrc (prog : Program) (w : World) (A : Around) (h₀ : Heap) (L : Addr) (m : Str → Option Value) (env : Env) (elt : Expr) (x : Str) (scope : Scope) (cl : List (Str × Addr)) (Q : Value → Shared → Prop) (xv : Value) (s₁ : Shared) : Prop :=
  ∃ (ax : Addr) (its : Array Value) (news : List (Addr × Obj)) (J : Nat → List Value → List (Addr × Obj) → Prop), xv = .ref ax ∧ A.handled = none ∧ Fr h₀ L s₁.heap m ∧ News h₀ L s₁.heap news ∧
      SrcAt h₀ ax its news ∧ its.size ≤ sizeLine ∧ J 0 [] news ∧
      (∀ i ys news v I oI C oC D c oc m₂ h tk (E' : Value → Shared → Prop), i < its.size → J i ys news → its[i]? = some v → NsObj oC m₂ → oc.data = .cell (some v) → Fr h₀ L h m → News h₀ L h ((I, oI) :: (C, oC) :: (D, LCg.lst ys) :: (c, oc) :: news) → Off3 I C D ((c, oc) :: news) → Off1 c news → ((@Ne Nat I C) ∧ (@Ne Nat I D) ∧ (@Ne Nat C D)) →
        wpAny (model prog w) A (eval elt (compEnvC scope ((x, c) :: cl) C env)) (CompEnd h₀ L m { s₁ with heap := h, toks := tk } I oI C oC D (LCg.lst ys) (fun _ => True) (fun y nw => ∃ oc' v' news', nw = (c, oc') :: news' ∧ oc'.data = .cell v' ∧ Off1 c news' ∧ SrcAt h₀ ax its news' ∧ J (i + 1) (ys ++ [y]) news')) E' { s₁ with heap := h, toks := tk }) ∧
      ∀ ys news', J its.size ys news' → FinE h₀ L m s₁ Q ys news'
theorem Off1.mem' {D : Addr} : ∀ {l : List (Addr × Obj)}, Off1 D l → ∀ p ∈ l, p.1 ≠ D
  | [], _, _, h => nomatch h
  | _ :: _, x, p, h => by
    rcases List.mem_cons.mp h with rfl | h
    · exact x.1
    · exact Off1.mem' x.2 p h
theorem Off1.of' {D : Addr} : ∀ {l : List (Addr × Obj)}, (∀ p ∈ l, p.1 ≠ D) → Off1 D l
  | [], _ => trivial
  | _ :: _, h => ⟨h _ List.mem_cons_self, Off1.of' fun p hp => h p (List.mem_cons_of_mem _ hp)⟩
inductive LoopCe (h₀ : Heap) (L : Addr) (m : Str → Option Value) (s₁ : Shared) (I C D c ax : Addr) (its : Array Value) (J : Nat → List Value → List (Addr × Obj) → Prop) (k : Nat) : Shared → Prop
  | mk (h' : Heap) (tk i : Nat) (ys : List Value) (m' : Str → Option Value) (oc : Obj) (v₀ : Option Value) (news' : List (Addr × Obj)) (a2 : i ≤ its.size) (a3 : k = its.size + 1 - i) (a4 : ys.length ≤ i) (a5 : h'.IsListIter I ax i ∧ h'.IsList ax its) (a6 : Fr h₀ L h' m) (a7 : h'.Ns C m') (a8 : News h₀ L h' ((D, lst ys) :: (c, oc) :: news'))
    (a9 : Off3 I C D ((c, oc) :: news')) (a10 : oc.data = .cell v₀) (a11 : Off1 c news') (a12 : SrcAt h₀ ax its news') (a13 : J i ys news') : LoopCe h₀ L m s₁ I C D c ax its J k { s₁ with heap := h', toks := tk }
/-- a comprehension over a list, whose variable is a cell of its own scope -/
theorem comp_cellL {elt iter : Expr} {n0 x z : Str} {px : Pos} {scope : Scope} {cl : List (Str × Addr)} {pos : Pos} {Q : Value → Shared → Prop}
    (hnm : scope.names = [(n0, .local), (x, .cell), (z, .free)]) (hxn : (x == n0) = false)
    (hclos : closureFor scope env = pure cl) (hkind : scope.kind = .function)
    (h : wpAny (model prog w) A (eval iter env) (CellSrc prog w A h₀ L m env elt x scope cl Q) E s)
    (hs : ∀ x, foldedSetIterable iter env x = pure x := by intro _; rfl) :
    wpAny (model prog w) A (eval (.ListComp elt [⟨.Name x px, iter, [], 0⟩] scope pos) env) Q E s := by
  rw [eval_ListComp]
  have hnames : ∀ y ∈ scope.names, y.2 = .local → scope.names.lookup y.1 = some .local := by
    rw [hnm]
    intro y hy hl
    simp only [List.mem_cons, List.not_mem_nil, or_false] at hy
    rcases hy with rfl | rfl | rfl
    · simp [List.lookup_cons]
    · cases hl
    · cases hl
  have hlc : (relabel scope env).names.lookup x = some .cell := by
    simp only [relabel, hnm, List.map_cons, List.map_nil]
    rw [show (NameKind.local == NameKind.free) = false from rfl, show (NameKind.cell == NameKind.free) = false from rfl]
    simp only [Bool.false_and, Bool.false_eq_true, if_false, List.lookup_cons, hxn, beq_self_eq_true]
  refine wpAny_comprehension_free (use := none) rfl hs hclos hkind hnames (wpAny_mono h (fun xv s₁ h₁ => ?_) fun _ _ e => e)
  obtain ⟨ax, its, news, J, rfl, hh, F, N, S, hsz, h0, turn, fin⟩ := h₁
  have hl := S.list F.keep N
  have hlt : ax < s₁.heap.objs.size := by obtain ⟨_, e, _⟩ := hl; exact Heap.lt_size e
  refine wpAny_pyIter_list hl ?_
  refine wpAny_newObj_type (newEnv_cell hnm ?_)
  dsimp only
  simp only [Heap.size_push]
  obtain ⟨h₁, eh⟩ : ∃ h, h = (((s₁.heap.push { cls := Value.type "list_iterator", data := Data.fields #[Value.ref ax, Value.int 0 0] }).push { cls := Value.type "list", data := Data.seq #[] }).push { cls := Value.type "dict", data := Data.dict #[] }).push { cls := Value.type "cell", data := Data.cell none } := ⟨_, rfl⟩
  rw [← eh]
  have old : ∀ b o, s₁.heap.get? b = some o → h₁.get? b = some o := fun b o e => by
    rw [eh]; exact Heap.get?_push_of_some _ (Heap.get?_push_of_some _ (Heap.get?_push_of_some _ (Heap.get?_push_of_some _ e)))
  have gI : h₁.get? s₁.heap.objs.size = some { cls := Value.type "list_iterator", data := Data.fields #[Value.ref ax, Value.int 0 0] } := by
    rw [eh]; exact Heap.get?_push_of_some _ (Heap.get?_push_of_some _ (Heap.get?_push_of_some _ (Heap.get?_push_size _ rfl)))
  have gD : h₁.get? (s₁.heap.objs.size + 1) = some (lst []) := by
    have e := Heap.get?_push_size (s₁.heap.push { cls := Value.type "list_iterator", data := Data.fields #[Value.ref ax, Value.int 0 0] }) (o := lst []) rfl
    rw [Heap.size_push] at e
    rw [eh]; exact Heap.get?_push_of_some _ (Heap.get?_push_of_some _ e)
  have gC : h₁.Ns (s₁.heap.objs.size + 1 + 1) (fun _ => none) := by
    rw [eh]
    have e := Heap.Ns.new ((s₁.heap.push { cls := Value.type "list_iterator", data := Data.fields #[Value.ref ax, Value.int 0 0] }).push { cls := Value.type "list", data := Data.seq #[] }) (.type "dict")
    simp only [Heap.size_push] at e
    exact e.push _
  have gc : h₁.get? (s₁.heap.objs.size + 1 + 1 + 1) = some { cls := Value.type "cell", data := Data.cell none } := by
    have e := Heap.get?_push_size (((s₁.heap.push { cls := Value.type "list_iterator", data := Data.fields #[Value.ref ax, Value.int 0 0] }).push { cls := Value.type "list", data := Data.seq #[] }).push { cls := Value.type "dict", data := Data.dict #[] }) (o := { cls := Value.type "cell", data := Data.cell none }) rfl
    simp only [Heap.size_push] at e
    rw [eh]; exact e
  clear eh
  have fresh : ∀ a, s₁.heap.objs.size ≤ a → s₁.heap.get? a = none := fun a ha => by
    cases e : s₁.heap.get? a with
    | none => rfl
    | some o' => exact absurd (Heap.lt_size e) (Nat.not_lt.mpr ha)
  have fresh₀ : ∀ a, s₁.heap.objs.size ≤ a → h₀.get? a = none := fun a ha => by
    cases e : h₀.get? a with
    | none => rfl
    | some o' => have := F.keep a o' e; rw [fresh a ha] at this; cases this
  have hLlt : L < s₁.heap.objs.size := F.ns.lt
  generalize s₁.heap.objs.size = I at *
  generalize eD : I + 1 = D at *
  generalize eC : D + 1 = C at *
  generalize ec : C + 1 = c at *
  have ltn : ∀ {a b : Nat}, a < b → @Ne Nat a b := fun h => Nat.ne_of_lt h
  have hID : @Ne Nat I D := by rw [← eD]; exact ltn (Nat.lt_succ_self _)
  have hIC : @Ne Nat I C := by rw [← eC, ← eD]; exact ltn (Nat.lt_succ_of_lt (Nat.lt_succ_self _))
  have hIc : @Ne Nat I c := by rw [← ec, ← eC, ← eD]; exact ltn (Nat.lt_succ_of_lt (Nat.lt_succ_of_lt (Nat.lt_succ_self _)))
  have hDC : @Ne Nat D C := by rw [← eC]; exact ltn (Nat.lt_succ_self _)
  have hDc : @Ne Nat D c := by rw [← ec, ← eC]; exact ltn (Nat.lt_succ_of_lt (Nat.lt_succ_self _))
  have hCc : @Ne Nat C c := by rw [← ec]; exact ltn (Nat.lt_succ_self _)
  have lI : ∀ b : Nat, b < I → b < D ∧ b < C ∧ b < c := fun b hb => by
    rw [← ec, ← eC, ← eD]; exact ⟨Nat.lt_succ_of_lt hb, Nat.lt_succ_of_lt (Nat.lt_succ_of_lt hb), Nat.lt_succ_of_lt (Nat.lt_succ_of_lt (Nat.lt_succ_of_lt hb))⟩
  have below : ∀ b : Nat, b < I → (@Ne Nat b I) ∧ (@Ne Nat b D) ∧ (@Ne Nat b C) ∧ (@Ne Nat b c) := fun b hb => ⟨ltn hb, ltn (lI b hb).1, ltn (lI b hb).2.1, ltn (lI b hb).2.2⟩
  have gI0 : h₀.get? I = none := fresh₀ _ (Nat.le_refl _)
  have gD0 : h₀.get? D = none := fresh₀ _ (by rw [← eD]; exact Nat.le_succ _)
  have gC0 : h₀.get? C = none := fresh₀ _ (by rw [← eC, ← eD]; exact Nat.le_succ_of_le (Nat.le_succ _))
  have gc0 : h₀.get? c = none := fresh₀ _ (by rw [← ec, ← eC, ← eD]; exact Nat.le_succ_of_le (Nat.le_succ_of_le (Nat.le_succ _)))
  have hLI : @Ne Nat L I := ltn hLlt
  have hLD : @Ne Nat L D := ltn (lI _ hLlt).1
  have hLC : @Ne Nat L C := ltn (lI _ hLlt).2.1
  have hLc : @Ne Nat L c := ltn (lI _ hLlt).2.2
  have axb := below ax hlt
  have nb : ∀ p ∈ news, (@Ne Nat p.1 I) ∧ (@Ne Nat p.1 D) ∧ (@Ne Nat p.1 C) ∧ (@Ne Nat p.1 c) := fun p hp => below p.1 (by
    have := N p hp
    exact Nat.lt_of_not_le fun q => by rw [fresh _ q] at this; exact nomatch this.1)
  have F₁ : Fr h₀ L h₁ m := F.keeps old
  have N₁ : News h₀ L h₁ ((D, lst []) :: (c, { cls := Value.type "cell", data := Data.cell none }) :: news) := fun p hp => by
    rcases List.mem_cons.mp hp with rfl | hp
    · exact ⟨gD, hLD.symm, gD0⟩
    · rcases List.mem_cons.mp hp with rfl | hp
      · exact ⟨gc, hLc.symm, gc0⟩
      · exact ⟨old _ _ (N p hp).1, (N p hp).2⟩
  have W := Walks.list (prog := prog) (w := w) (A := A) hh I ax (Nat.ne_of_lt hlt) its
  have hst₁ : h₁.IsListIter I ax 0 ∧ h₁.IsList ax its := ⟨⟨_, gI, rfl, rfl⟩, hl.at fun o e => old _ o e⟩
  have off₀ : Off3 I C D ((c, { cls := Value.type "cell", data := Data.cell none }) :: news) := ⟨⟨hIc.symm, hCc.symm, hDc.symm⟩, Off3.of fun p hp => ⟨(nb p hp).1, (nb p hp).2.2.1, (nb p hp).2.1⟩⟩
  have loop : ∀ s₃ : Shared, s₃ = { s₁ with heap := h₁ } →
      codeAny (model prog w) A (.compLoop (.ListComp elt [⟨.Name x px, iter, [], 0⟩] scope pos) 0 (.ref I) (.ref D) (compEnvC scope ((x, c) :: cl) C env)) (compPost (model prog w) A E none Q (Value.ref D) C) s₃ := by
    rintro s₃ rfl
    refine gen_loop (ct := none)
      (LoopCe h₀ L m s₁ I C D c ax its J) ?_ (its.size + 1)
      ⟨h₁, _, 0, [], _, _, none, news, Nat.zero_le _, rfl, Nat.le_refl _, hst₁, F₁, gC, N₁, off₀, rfl, Off1.of' fun p hp => (nb p hp).2.2.2, S, h0⟩
    rintro k _ ⟨h', tk, i, ys, m', oc, v₀, news', hi, rfl, hyl, hst', F', hn', N', off', hcd, o1', S', hJ⟩
    by_cases hlt' : i < its.size
    · refine W.item i _ _ _ hlt' hst' fun v h₂ tk₂ hPv hst₂ hk₂ => ?_
      have off3 := off'.mem
      have N₂ : News h₀ L h₂ ((D, lst ys) :: (c, oc) :: news') := news_but N' hk₂ fun p hp => by
        rcases List.mem_cons.mp hp with rfl | hp
        · exact hID.symm
        · exact (off3 p hp).1
      have F₂ := fr_but F' hk₂ hLI gI0
      have hn₂ : h₂.Ns C m' := hn'.at' fun o e => hk₂ _ o (by simpa using hIC.symm) e
      refine wpAny_pure ?_
      refine wpAny_assign_Name (wpAny_storeName_cell (v₀ := v₀) (by simp [compEnvC, relabel, hkind]) hlc (by simp [compEnvC, List.lookup_cons]) ⟨oc, (N₂ (c, oc) (.tail _ (.head _))).1, hcd⟩ fun h₃ hv₃ hs₃ => ?_)
      obtain ⟨oc₃, gc₃, hcd₃⟩ := hv₃
      have hst₃ : h₃.IsListIter I ax (i + 1) ∧ h₃.IsList ax its := ⟨hst₂.1.at fun o e => hs₃.extBut _ o hIc e, hst₂.2.at fun o e => hs₃.extBut _ o axb.2.2.2 e⟩
      have hn₃ : h₃.Ns C m' := hn₂.sameBut hs₃ hCc
      obtain ⟨oI, heI, hI2, hI3⟩ := hst₃.1
      obtain ⟨oC, heC, hoC⟩ := ns_obj hn₃
      have F₃ := F₂.change hs₃ hLc.symm gc0
      have N₃ : News h₀ L h₃ ((I, oI) :: (C, oC) :: (D, lst ys) :: (c, oc₃) :: news') := fun p hp => by
        rcases List.mem_cons.mp hp with rfl | hp
        · exact ⟨heI, hLI.symm, gI0⟩
        · rcases List.mem_cons.mp hp with rfl | hp
          · exact ⟨heC, hLC.symm, gC0⟩
          · rcases List.mem_cons.mp hp with rfl | hp
            · exact ⟨hs₃.extBut _ _ hDc (N₂ _ (.head _)).1, hLD.symm, gD0⟩
            · rcases List.mem_cons.mp hp with rfl | hp
              · exact ⟨gc₃, hLc.symm, gc0⟩
              · have z := N₂ p (.tail _ (.tail _ hp))
                exact ⟨hs₃.extBut _ _ (Off1.mem' o1' p hp) z.1, z.2⟩
      refine wpAny_mono (turn i ys news' v I oI C oC D c oc₃ m' h₃ _ _ hlt' hJ hPv hoC hcd₃ F₃ N₃ ⟨off'.1, off'.2⟩ o1' ⟨hIC, hID, hDC.symm⟩) (fun y s₅ h₅ => ?_) fun _ _ e => e
      obtain ⟨h₄, tk₄, news₄, rfl, F₄, N₄, off₄, _, oc₄, v₄, nw₄, rfl, hcd₄, o1₄, S₄, R₄⟩ := h₅
      have zI := (N₄ (I, oI) List.mem_cons_self).1
      have zC := (N₄ (C, oC) (List.mem_cons_of_mem _ List.mem_cons_self)).1
      have zD := (N₄ (D, lst ys) (List.mem_cons_of_mem _ (List.mem_cons_of_mem _ List.mem_cons_self))).1
      have N₄' : News h₀ L h₄ ((c, oc₄) :: nw₄) := fun p hp => N₄ p (List.mem_cons_of_mem _ (List.mem_cons_of_mem _ (List.mem_cons_of_mem _ hp)))
      have hst₄ : h₄.IsListIter I ax (i + 1) ∧ h₄.IsList ax its := ⟨⟨oI, zI, hI2, hI3⟩, S₄.list F₄.keep fun p hp => N₄' p (.tail _ hp)⟩
      refine append_at (hsz := by show ys.toArray.size ≤ sizeLine; rw [List.size_toArray]; exact Nat.le_trans (Nat.le_trans hyl hi) hsz) zD fun h₅ hs₅ hD₅ => ?_
      have off4 := off₄.mem
      refine ⟨its.size + 1 - (i + 1), by omega, h₅, tk₄, i + 1, ys ++ [y], m', oc₄, v₄, nw₄, hlt', rfl, by rw [List.length_append, List.length_singleton]; exact Nat.succ_le_succ hyl,
        ⟨hst₄.1.at fun o e => hs₅.extBut _ o hID e, hst₄.2.at fun o e => hs₅.extBut _ o axb.2.1 e⟩, F₄.change hs₅ hLD.symm gD0,
        (hoC.ns zC).sameBut hs₅ hDC.symm, fun p hp => ?_, off₄, hcd₄, o1₄, S₄, R₄⟩
      rcases List.mem_cons.mp hp with rfl | hp
      · exact ⟨hD₅.trans (congrArg some (lst_snoc ys y)), hLD.symm, gD0⟩
      · exact ⟨hs₅.extBut _ _ (off4 p hp).2.2 (N₄' p hp).1, (N₄' p hp).2⟩
    · obtain rfl : i = its.size := Nat.le_antisymm hi (Nat.not_lt.mp hlt')
      refine W.done _ _ _ hst' fun h₂ tk₂ hk₂ => ?_
      have off3 := off'.mem
      have N₂ : News h₀ L h₂ ((D, lst ys) :: (c, oc) :: news') := news_but N' hk₂ fun p hp => by
        rcases List.mem_cons.mp hp with rfl | hp
        · exact hID.symm
        · exact (off3 p hp).1
      have F₂ := fr_but F' hk₂ hLI gI0
      refine ⟨m', hn'.at' fun o e => hk₂ _ o (by simpa using hIC.symm) e, fun h'' hs'' => fin ys news' hJ D h'' tk₂ (F₂.change hs'' hLC.symm gC0) (fun p hp => ?_) off'.2.one⟩
      rcases List.mem_cons.mp hp with rfl | hp
      · exact ⟨hs''.extBut _ _ hDC (N₂ _ (.head _)).1, hLD.symm, gD0⟩
      · exact ⟨hs''.extBut _ _ (off3 p (.tail _ hp)).2.1 (N₂ p (.tail _ (.tail _ hp))).1, (N₂ p (.tail _ (.tail _ hp))).2⟩
  exact codeAny_compStart_list (loop _ rfl) (W.self 0 _ _ _ hst₁ (loop _ rfl))
def ListSrc (prog : Program) (w : World) (A : Around) (h₀ : Heap) (L : Addr) (m : Str → Option Value) (env : Env) (ct : Option Expr) (elt : Expr) (x : Str) (scope : Scope) (cl : List (Str × Addr)) (Q : Value → Shared → Prop) (xv : Value) (s₁ : Shared) : Prop :=
  ∃ (ax : Addr) (its : Array Value) (news : List (Addr × Obj)) (J : Nat → List Value → List (Addr × Obj) → Prop), xv = .ref ax ∧ A.handled = none ∧ Fr h₀ L s₁.heap m ∧ News h₀ L s₁.heap news ∧
      SrcAt h₀ ax its news ∧ its.size ≤ sizeLine ∧ J 0 [] news ∧
      (∀ i ys news v I oI C oC D m₂ h tk (E' : Value → Shared → Prop), i < its.size → J i ys news → its[i]? = some v → NsObj oC m₂ → m₂ x = some v → Fr h₀ L h m → News h₀ L h ((I, oI) :: (C, oC) :: (D, LCg.lst ys) :: news) → Off3 I C D news → ((@Ne Nat I C) ∧ (@Ne Nat I D) ∧ (@Ne Nat C D)) →
        CompTurn prog w A (compEnvC scope cl C env) ct elt (CompEnd h₀ L m { s₁ with heap := h, toks := tk } I oI C oC D (LCg.lst ys) (SrcAt h₀ ax its) (fun y news' => J (i + 1) (ys ++ [y]) news'))
          (CompEnd h₀ L m { s₁ with heap := h, toks := tk } I oI C oC D (LCg.lst ys) (SrcAt h₀ ax its) (fun _ news' => J (i + 1) ys news') Value.none) E' { s₁ with heap := h, toks := tk }) ∧
      ∀ ys news', J its.size ys news' → FinE h₀ L m s₁ Q ys news'
/-- a comprehension over a list, with or without a test -/
theorem comp_listG {elt iter : Expr} {ct : Option Expr} {x : Str} {px : Pos} {scope : Scope} {cl : List (Str × Addr)} {pos : Pos} {Q : Value → Shared → Prop}
    (hclos : closureFor scope env = pure cl) (hcell : ∀ y ∈ scope.names, y.2 ≠ .cell) (hkind : scope.kind = .function)
    (hnames : ∀ y ∈ scope.names, y.2 = .local → scope.names.lookup y.1 = some .local) (hx : scope.names.lookup x = some .local)
    (h : wpAny (model prog w) A (eval iter env) (ListSrc prog w A h₀ L m env ct elt x scope cl Q) E s)
    (hs : ∀ x, foldedSetIterable iter env x = pure x := by intro _; rfl) :
    wpAny (model prog w) A (eval (.ListComp elt [⟨.Name x px, iter, ifsOf ct, 0⟩] scope pos) env) Q E s := by
  rw [eval_ListComp]
  refine wpAny_comprehension_free (use := none) rfl hs hclos hkind hnames (wpAny_mono h (fun xv s₁ h₁ => ?_) fun _ _ e => e)
  obtain ⟨ax, its, news, J, rfl, hh, F, N, S, hsz, h0, turn, fin⟩ := h₁
  have hl := S.list F.keep N
  have hlt : ax < s₁.heap.objs.size := by obtain ⟨_, e, _⟩ := hl; exact Heap.lt_size e
  refine wpAny_pyIter_list hl ?_
  have up : ∀ b o, s₁.heap.get? b = some o → (s₁.heap.push { cls := .type "list_iterator", data := .fields #[.ref ax, .int 0 0] }).get? b = some o := fun b o e => Heap.get?_push_of_some _ e
  refine block_G (fun i v m'' => m'' x = some v) J (Walks.list hh s₁.heap.objs.size ax (Nat.ne_of_lt hlt) its) hsz (fun i h st => by obtain ⟨o, e, _⟩ := st.1; exact ⟨o, e⟩) list_st (fun i v s Q E st q => wpAny_pure q) ?_ hcell hkind
    ⟨⟨_, Heap.get?_push_size _ rfl, rfl, rfl⟩, hl.push _⟩ (fun b hb => ?_) (F.keeps up) (N.grown up) (Nat.ne_of_lt F.ns.lt) (next_is_new F) (fun p hp => Nat.ne_of_lt (Heap.lt_size (N p hp).1)) S h0 ?_ ?_
  · intro i v ys nw C m' s Q E hi hv hJ N' hn k
    refine wpAny_assign_Name (wpAny_storeName_local (lookup_relabel_local hx) hn (fun h₃ hn₃ hs₃ => ?_) (by simp [compEnvC, relabel, hkind]))
    exact k h₃ _ _ hn₃ (by simp) fun c o hc e => hs₃.extBut c o hc e
  · show b < (s₁.heap.push _).objs.size
    rw [Heap.size_push]
    rcases List.mem_cons.mp hb with rfl | hb
    · exact Nat.lt_succ_self _
    · rw [List.mem_singleton.mp hb]; exact Nat.lt_succ_of_lt hlt
  · intro i ys news v I oI C oC D m₂ h tk E' hi hJ hP hC hB F N off ne
    exact turn i ys news v I oI C oC D m₂ h tk E' hi hJ hP hC hB F N off ne
  · intro D C h tk m' ys news' F' N' o1 hn hC₀ hD₀ hCL hDL hCD offC hJ
    refine ⟨m', hn, fun h'' hs'' => fin ys news' hJ D h'' tk (F'.change hs'' hCL hC₀) (fun p hp => ?_) o1⟩
    refine ⟨hs''.extBut _ _ ?_ (N' p hp).1, (N' p hp).2⟩
    rcases List.mem_cons.mp hp with rfl | hp
    · exact Ne.symm hCD
    · exact offC p hp
end
/-- the first i lists of `first` -/
def FirstsIn (xs : List Int) (kr : List (Addr × Obj)) (ys : List Value) (i : Nat) : Prop := ys.length = i ∧ ∀ k, k < i → ∃ l vs n t, ys[k]? = some (.ref l) ∧ (l, W.listOf vs n) ∈ kr ∧ vs[0]? = some (.int (firstOf xs (nm7 (6 - k))) t)
theorem FirstsIn.nil {xs : List Int} {kr : List (Addr × Obj)} : FirstsIn xs kr [] 0 := ⟨rfl, fun _ h => absurd h (Nat.not_lt_zero _)⟩
theorem FirstsIn.snoc {xs : List Int} {kr kr' : List (Addr × Obj)} {ys : List Value} {i : Nat} {l : Addr} {vs : Array Value} {n : Nat} {t : Tok} (x : FirstsIn xs kr ys i) (k : ∀ p ∈ kr, p ∈ kr') (m : (l, W.listOf vs n) ∈ kr') (hv : vs[0]? = some (.int (firstOf xs (nm7 (6 - i))) t)) : FirstsIn xs kr' (ys ++ [.ref l]) (i + 1) := by
  refine ⟨by rw [List.length_append, x.1]; rfl, fun j hj => ?_⟩
  by_cases e : j < i
  · obtain ⟨l, vs, n, t, a1, a2, a3⟩ := x.2 j e
    exact ⟨l, vs, n, t, by rw [List.getElem?_append_left (by rw [x.1]; exact e)]; exact a1, k _ a2, a3⟩
  · obtain rfl : j = i := by omega
    have := x.1
    subst this
    exact ⟨l, vs, n, t, List.getElem?_concat_length .., m, hv⟩
end
section
-- text N62
open PySem PySem.W PyProof.Rows PySem.Calls
set_option maxHeartbeats 8000000
theorem rows_N62 : True := by
  k_with_none
  k_with "mine sides0" => ((case k3 => k_asm); (case k5 => k_asm); (case k6 => k_is); (case k7 => k_is); (case k8 => exact Nat.le_of_ble_eq_true rfl); (case k9 => first | exact BindsTo.of_eq rfl | exact binds_K (by k_in) rfl (by k_is) rfl rfl rfl); (case c5 => decide); (case kB => exact locs rfl); (case c2 => exact rfl); (case c3 => exact rfl); (case c4 => exact rfl))
  k_with "mine sidesC" => ((case k3 => k_asm); (case k5 => k_asm); (case k6 => k_is); (case k7 => k_is); (case k8 => exact Nat.le_of_ble_eq_true rfl); (case k9 => first | exact BindsTo.of_eq rfl | exact binds_K (by k_in) rfl (by k_is) rfl rfl rfl); (case kB => exact rfl); (case kD => decide +kernel); (case c2 => exact rfl); (case c3 => exact rfl); (case c4 => exact rfl))
  k_with "mine enter0" => ((refine' enterS (by k_asm) (by k_asm) (by k_is) (by k_is) (by exact Nat.le_of_ble_eq_true rfl) (by first | exact BindsTo.of_eq rfl | exact binds_K (by k_in) rfl (by k_is) rfl rfl rfl) (by exact locs rfl) ?_ (by exact rfl) (by exact rfl) (by exact rfl) (by decide); k_whole; intro L' h' F' N'); (try (revert L' h' F' N'; intros)))
  k_with "mine enterC" => ((refine' enterSC (by k_asm) (by k_asm) (by k_is) (by k_is) (by exact Nat.le_of_ble_eq_true rfl) (by first | exact BindsTo.of_eq rfl | exact binds_K (by k_in) rfl (by k_is) rfl rfl rfl) (by exact rfl) (by decide +kernel) ?_ (by exact rfl) (by exact rfl) (by exact rfl); k_whole; intro L' h' tk' cells' F' N' Y'; k_cells Y'; (try simp only [List.cons_append, List.nil_append, List.append_nil] at N')); (try (revert L' h' tk' cells' F' N' Y'; intros)))
  k_with "eval ListComp" => (k_here; lcf_look; k_dflt (refine LCg.ListComp_U (F₀ := by k_asm) (by with_unfolding_all rfl) (by decide) (by rfl) (by decide) (by rfl) ?_); k_dflt lcg_toSrc)
  k_with "CompSrc" => (k_here; k_dflt (first | (refine LCg.CompSrc.ledger (by rfl) (by k_asm) (by k_asm) (by k_mem) (by first | size_fits | exact Nat.le_of_ble_eq_true rfl) ?_; intro g'; lcg_lit) | (refine LCg.CompSrc.base (by rfl) (by k_asm) (by k_asm) (by assumption) (by first | size_fits | exact Nat.le_of_ble_eq_true rfl) ?_; intro g'; lcg_lit) | (refine LCg.CompSrc.range (by rfl) (by k_asm) (by k_asm) (by assumption) (by first | decide | rfl) (by first | rfl | decide) (by first | size_fits | exact Nat.le_of_ble_eq_true rfl) ?_; intro g'; lcg_lit)))
  k_with "getMethod str" => ((with_reducible show wpAny _ _ (getMethod (Value.str _ _) (PySem.Str.ofString "translate") _) _ _ _); refine GM.of _ (typeIs_str _ _ _) F.slot_str_translate F.type_str_translate GM.noRef ?_)
  k_with "call builtin:str.translate" => ((k_here; k_dflt (refine' translate_K (by k_asm) (by k_asm) (by k_asm) (by k_is) (by decide +kernel) (by assumption) (by rfl) (by rfl) (by rename _ ∨ _ => hn9; rcases hn9 with e | e <;> (rw [e]; decide +kernel)) ?_; k_whole); intro t9 h9 tk9 F9 N9); (try (revert t9 h9 tk9 F9 N9; intros)))
  k_with "getAttr ref" => ((k_here; (with_reducible show wpAny _ _ (getAttr (Value.ref _) (PySem.Str.ofString "append") _) _ _ _); k_dflt (refine' getAttr_append_K (by k_asm) (by k_asm) (by k_mem) ?_; k_whole); intro u' h' tk' F' N' l1; (try k_lt l1); (try k_sweep)); (try (revert u' h' tk' F' N' l1; intros)))
  k_with "callWith ref" => (k_here; (with_reducible show wpAny _ _ (callWith _ (Value.ref _) _ (backTo _ (starEach (_ :: _) _)) []) _ _ _); k_dflt (refine' callWith_bnd_K (by k_asm) (by k_mem) ?_; k_whole))
  k_with "And" => ((with_reducible show BndAt _ _ _ _ ∧ _); k_dflt (refine ⟨bndAt_of (by k_asm) (by k_mem), ?_⟩); (try dsimp only [List.nil_append, List.cons_append]))
  k_with "call ref" => ((k_here; k_dflt (refine' call_bnd_append_K (by k_asm) (by k_asm) (by k_mem) (by k_updF) (by first | assumption | size_fits | exact Nat.le_of_ble_eq_true rfl) ?_; k_whole); intro h' F' N'; (try dsimp only at N'); (try k_sweep)); (try (revert h' F' N'; intros)))
  k_with "call builtin:len" => ((k_here; (with_reducible show wpAny _ _ (call (Value.builtin "len") [Value.str (Str.mk _) _]) _ _ _); (first | refine len_known 3 rfl rfl ?_ | refine len_known 2 rfl rfl ?_ | refine len_known 1 rfl rfl ?_ | refine len_known 0 rfl rfl ?_); intro t9 k9); (try (revert t9 k9; intros)))
  k_with "subscriptTail Name Name str int" => ((k_here; (with_reducible show wpAny _ _ (subscriptTail _ _ (Value.str _ _) (Value.int _ _)) _ _ _); k_dflt (refine' item_at (by assumption) (by omega) ?_; k_whole); intro t9 k9); (try (revert t9 k9; intros)))
  k_with "subscriptTail" => (k_here; (with_reducible show wpAny _ _ (subscriptTail _ _ (Value.ref _) (Value.int (-1) _)) _ _ _); k_dflt (refine' item_last (by k_asm) (by k_mem) (by omega) ?_; k_whole))
  k_with "truthy ref" => ((k_here; (with_reducible show wpAny _ _ (truthy (Value.ref _)) _ _ _); k_dflt (first | (refine' truthy_known true (by k_asm) (by k_mem) (by (first | assumption | exact Nat.le_of_ble_eq_true rfl | (simp only [Array.size_push]; omega))) (by (first | rfl | (simp; done))) ?_; k_whole) | (refine' truthy_known false (by k_asm) (by k_mem) (by (first | assumption | exact Nat.le_of_ble_eq_true rfl)) (by rfl) ?_; k_whole)); intro k9); (try (revert k9; intros)))
  k_with "ite" => (k_closed; k_dflt (first | refine ite_pos (by decide +kernel) ?_ | refine ite_neg (by decide +kernel) ?_))
  k_with "exec For Name Call cons nil" => (k_here; (with_reducible show wpAny _ _ (exec (Stmt.For _ _ _ _ _) _) _ _ _); refine Stop.go ?_)
  k_with "pyIter ref" => (k_here; (with_reducible show wpAny _ _ (pyIter _) (fun _ _ => LoopAtV _ _ _ _ _ _ _ _ _ _ _) _ _); refine Stop.go ?_)
  k_with "call builtin:len" => ((k_here; (with_reducible show wpAny _ _ (call (Value.builtin "len") [Value.ref _]) _ _ _); k_dflt (refine' len_list_is (by first | assumption | exact Fr.lst (by assumption) (by assumption)) (by assumption) (by omega) ?_; k_whole); intro t9 k9); (try (revert t9 k9; intros)))
  k_with "compareOp In int ref" => (k_here; k_dflt (refine' in_list_ints (by is_list) (by assumption) ?_; k_whole))
  k_with "subscriptTail Name BinOp ref int" => (k_here; k_dflt (refine' item_pred (by is_list) (by assumption) (by omega) ?_; k_whole))
  k_with "binaryOp Add ref ref" => ((k_here; k_dflt (refine' add_ints_K (by k_asm) (by k_asm) (by k_mem) (by k_mem) (by assumption) (by omega) ?_; k_whole); intro D' h' ws' F' N' hI'); (try (revert D' h' ws' F' N' hI'; intros)))
  k_with "exec Assign cons ListComp" => (k_here; lct_look; k_dflt (refine LCt.Assign_ListComp_T (F₀ := by k_asm) (by rfl) (by with_unfolding_all rfl) (by with_unfolding_all rfl) (by decide) (by rfl) (by decide) (by rfl) (by rfl) (by rfl) ?_); k_dflt lct_toSrc)
  k_with "CompSrcT" => (k_here; refine Stop.go ?_)
  k_with "CompEnd" => (k_here; refine Stop.go ?_)
  k_with "subscriptTail Name Name ref int" => (k_here; k_dflt (refine' item_nat_list (by is_list) (by assumption) (by omega) ?_; k_whole))
  k_with "compareOp In none ref" => (k_here; k_dflt (refine' in_disp (by is_list) (by assumption) ?_; k_whole))
  k_with "compareOp In str ref" => (k_here; k_dflt (refine' in_disp (by is_list) (by assumption) ?_; k_whole))
  k_with "mine use80" => (refine wpAny_call ?_; (refine' use0 (d := 380) (u := 800) ?B ?F ?X ?T ?hA ?hf ?hk ?hh ?hd ?hu ?_; (case B => k_asm); (case F => k_asm); (case X => k_asm); (case T => k_asm); (case hA => exact rfl); (case hf => exact rfl); (case hk => exact rfl); (case hh => exact rfl); (case hd => exact Nat.le_of_ble_eq_true rfl); (case hu => exact Nat.le_of_ble_eq_true rfl)))
  k_with "call builtin:iter" => ((k_here; (with_reducible show wpAny _ _ (call (Value.builtin "iter") [Value.str _ _]) _ _ _); k_dflt (refine' iter_str_K (by k_asm) (by k_asm) (by assumption) ?_; k_whole); intro I9 h9 F9 N9 l9 f9; (try k_lt l9)); (try (revert I9 h9 F9 N9 l9 f9; intros)))
  k_with "compareOp Is ref ref" => (k_here; (with_reducible show wpAny _ _ (compareOp CmpOp.Is (Value.ref _) (Value.ref _)) _ _ _); k_dflt (refine' is_list_other (by is_list) (by kto_obj) (by assumption) ?_; k_whole))
  k_with "mine use70" => (refine wpAny_call ?_; (refine' use0 (d := 370) (u := 700) ?B ?F ?X ?T ?hA ?hf ?hk ?hh ?hd ?hu ?_; (case B => k_asm); (case F => k_asm); (case X => k_asm); (case T => k_asm); (case hA => exact rfl); (case hf => exact rfl); (case hk => exact rfl); (case hh => exact rfl); (case hd => exact Nat.le_of_ble_eq_true rfl); (case hu => exact Nat.le_of_ble_eq_true rfl)))
  k_with "mine use60" => (refine wpAny_call ?_; (refine' use0 (d := 360) (u := 600) ?B ?F ?X ?T ?hA ?hf ?hk ?hh ?hd ?hu ?_; (case B => k_asm); (case F => k_asm); (case X => k_asm); (case T => k_asm); (case hA => exact rfl); (case hf => exact rfl); (case hk => exact rfl); (case hh => exact rfl); (case hd => exact Nat.le_of_ble_eq_true rfl); (case hu => exact Nat.le_of_ble_eq_true rfl)))
  k_with "mine use50" => (refine wpAny_call ?_; (refine' use0 (d := 350) (u := 500) ?B ?F ?X ?T ?hA ?hf ?hk ?hh ?hd ?hu ?_; (case B => k_asm); (case F => k_asm); (case X => k_asm); (case T => k_asm); (case hA => exact rfl); (case hf => exact rfl); (case hk => exact rfl); (case hh => exact rfl); (case hd => exact Nat.le_of_ble_eq_true rfl); (case hu => exact Nat.le_of_ble_eq_true rfl)))
  k_with "eval Name" => (k_here; kc_free; k_dflt (refine' nameX_old (by k_asm) (by rfl) (by assumption) ?_ (by rfl) (by rfl); k_whole))
  k_with "call builtin:iter" => ((k_here; (with_reducible show wpAny _ _ (call (Value.builtin "iter") [Value.ref _]) _ _ _); k_dflt (refine' iter_list_K (by k_asm) (by k_asm) (by is_list) ?_; k_whole); intro I9 h9 F9 N9 l9 f9; (try k_lt l9)); (try (revert I9 h9 F9 N9 l9 f9; intros)))
  k_with "exec For Name Name cons nil" => (k_here; (with_reducible show wpAny _ _ (exec (Stmt.For _ _ _ _ _) _) _ _ _); refine Stop.go ?_)
  k_with "callWith ref" => (k_here; (with_reducible show wpAny _ _ (callWith _ (Value.ref _) _ (backTo _ (starEach (_ :: _) _)) []) _ _ _); k_dflt (refine' callWith_F (by exact fnAt_kept (by k_asm) (by assumption)) ?_; k_whole))
  k_with "And" => ((with_reducible show FnAt _ _ ∧ _); k_dflt (refine ⟨fnAt_kept (by k_asm) (by assumption), ?_⟩); (try dsimp only [List.nil_append, List.cons_append]))
  k_with "call ref" => (k_here; (with_reducible show wpAny _ _ (call (Value.ref _) [Value.int _ _, Value.ref _]) _ _ _); refine Stop.go ?_)
  k_with "compareOp Is int ref" => (k_here; (with_reducible show wpAny _ _ (compareOp CmpOp.Is (Value.int _ _) (Value.ref _)) _ _ _); refine wpAny_is_other (by rfl) (by intro x; cases x) ?_)
  k_with "compareOp Lt ref ref" => ((k_here; k_dflt (first | (refine' lt_Kb true (by k_asm) (by k_asm) (by k_asm) (by k_asm) (by k_asm) (by assumption) (by assumption) (by assumption) (by decide +kernel) ?_ rfl rfl rfl rfl (Nat.le_of_ble_eq_true rfl) (Nat.le_of_ble_eq_true rfl); k_whole) | (refine' lt_Kb false (by k_asm) (by k_asm) (by k_asm) (by k_asm) (by k_asm) (by assumption) (by assumption) (by assumption) (by decide +kernel) ?_ rfl rfl rfl rfl (Nat.le_of_ble_eq_true rfl) (Nat.le_of_ble_eq_true rfl); k_whole) | (refine' lt_Kb1 true (by k_asm) (by k_asm) (by k_asm) (by k_asm) (by k_asm) (by assumption) (by assumption) (by assumption) (by assumption) (by decide +kernel) ?_ rfl rfl rfl rfl (Nat.le_of_ble_eq_true rfl) (Nat.le_of_ble_eq_true rfl); k_whole) | (refine' lt_Kb1 false (by k_asm) (by k_asm) (by k_asm) (by k_asm) (by k_asm) (by assumption) (by assumption) (by assumption) (by assumption) (by decide +kernel) ?_ rfl rfl rfl rfl (Nat.le_of_ble_eq_true rfl) (Nat.le_of_ble_eq_true rfl); k_whole) | (refine' lt_Kb2 true (by k_asm) (by k_asm) (by k_asm) (by k_asm) (by k_asm) (by assumption) (by assumption) (by assumption) (by assumption) (by assumption) (by decide +kernel) ?_ rfl rfl rfl rfl (Nat.le_of_ble_eq_true rfl) (Nat.le_of_ble_eq_true rfl); k_whole) | (refine' lt_Kb2 false (by k_asm) (by k_asm) (by k_asm) (by k_asm) (by k_asm) (by assumption) (by assumption) (by assumption) (by assumption) (by assumption) (by decide +kernel) ?_ rfl rfl rfl rfl (Nat.le_of_ble_eq_true rfl) (Nat.le_of_ble_eq_true rfl); k_whole)); intro h9 tk9 F9 N9); (try (revert h9 tk9 F9 N9; intros)))
  trivial
theorem push0_spec : ∀ (w : World) (mean : ExcName → Option Value) (mg mb : Str → Option Value) (hl a cell i0 i1 i2 i3 i4 i5 i6 : Addr) (r : KRec) (k : Nat)
    (fr : List Env) (base g : Heap) (s : Shared) (R : Result → Shared → Prop)
    (hg : g = hideAll s.heap [hl]) (ht : s.heap.get? hl = some (lobj #[] k)) (HK : Keys w g a cell r i0 i1 i2 i3 i4 i5 i6)
    (B : Below (AA 360 600 fr) base fr g) (X : (Mine.heap39 w.params).In g) (T : Top topProg looseG mean mg mb g)
    (hret : ∀ (h' : Heap) (tk' k' : Nat), (∀ b o, g.get? b = some o → h'.get? b = some o) → h'.get? hl = some (lobj #[.ref i0] k') → R (.ok (.ret (.none))) { s with heap := h', toks := tk' }),
    codeAny (model PySem.Challenge.rw_in0045_01.row.prog w) (AA 360 600 fr) (.call (.ref 38) ⟨[.ref hl, .ref i0], []⟩) R s := by
  k_fill
  intro w mean mg mb hl a cell i0 i1 i2 i3 i4 i5 i6 r k fr base g s R hg ht HK B X T hret
  obtain ⟨H, e0, e1, e2, e3, e4, e5, e6⟩ := HK
  refine' enter0 (tb := [(hl, lobj #[] k)]) (binds := [(Str.ofString "heap", .ref hl), (Str.ofString "item", .ref i0)]) g hg ?kt ?k3 ?k5 ?k6 ?k7 ?k8 ?k9 ?kB ?_ ?c2 ?c3 ?c4 ?c5
  (case kt => intro q hq; rw [List.mem_singleton.mp hq]; exact ht)
  walk_at "mine sides0"
  intro L' h' F' N' l0
  repeat' (first | walk1 | (dsimp only; walk1))
  all_goals ((rename Fr _ _ _ _ => F8); (rename News _ _ _ _ => N8); exact hret _ _ _ F8.keep (N8.get (by k_mem)))
theorem push1_spec : ∀ (w : World) (mean : ExcName → Option Value) (mg mb : Str → Option Value) (hl a cell i0 i1 i2 i3 i4 i5 i6 : Addr) (r : KRec) (k : Nat)
    (fr : List Env) (base g : Heap) (s : Shared) (R : Result → Shared → Prop)
    (hg : g = hideAll s.heap [hl]) (ht : s.heap.get? hl = some (lobj #[.ref i0] k)) (HK : Keys w g a cell r i0 i1 i2 i3 i4 i5 i6)
    (B : Below (AA 360 600 fr) base fr g) (X : (Mine.heap39 w.params).In g) (T : Top topProg looseG mean mg mb g)
    (hret : ∀ (h' : Heap) (tk' k' : Nat), (∀ b o, g.get? b = some o → h'.get? b = some o) → h'.get? hl = some (lobj #[.ref i1, .ref i0] k') → R (.ok (.ret (.none))) { s with heap := h', toks := tk' }),
    codeAny (model PySem.Challenge.rw_in0045_01.row.prog w) (AA 360 600 fr) (.call (.ref 38) ⟨[.ref hl, .ref i1], []⟩) R s := by
  k_fill
  intro w mean mg mb hl a cell i0 i1 i2 i3 i4 i5 i6 r k fr base g s R hg ht HK B X T hret
  obtain ⟨H, e0, e1, e2, e3, e4, e5, e6⟩ := HK
  refine' enter0 (tb := [(hl, lobj #[.ref i0] k)]) (binds := [(Str.ofString "heap", .ref hl), (Str.ofString "item", .ref i1)]) g hg ?kt ?k3 ?k5 ?k6 ?k7 ?k8 ?k9 ?kB ?_ ?c2 ?c3 ?c4 ?c5
  (case kt => intro q hq; rw [List.mem_singleton.mp hq]; exact ht)
  walk_at "mine sides0"
  intro L' h' F' N' l0
  repeat' (first | walk1 | (dsimp only; walk1))
  all_goals ((rename Fr _ _ _ _ => F8); (rename News _ _ _ _ => N8); exact hret _ _ _ F8.keep (N8.get (by k_mem)))
theorem push2_spec : ∀ (w : World) (mean : ExcName → Option Value) (mg mb : Str → Option Value) (hl a cell i0 i1 i2 i3 i4 i5 i6 : Addr) (r : KRec) (k : Nat)
    (fr : List Env) (base g : Heap) (s : Shared) (R : Result → Shared → Prop)
    (hg : g = hideAll s.heap [hl]) (ht : s.heap.get? hl = some (lobj #[.ref i1, .ref i0] k)) (HK : Keys w g a cell r i0 i1 i2 i3 i4 i5 i6)
    (B : Below (AA 360 600 fr) base fr g) (X : (Mine.heap39 w.params).In g) (T : Top topProg looseG mean mg mb g)
    (hret : ∀ (h' : Heap) (tk' k' : Nat), (∀ b o, g.get? b = some o → h'.get? b = some o) → h'.get? hl = some (lobj #[.ref i2, .ref i0, .ref i1] k') → R (.ok (.ret (.none))) { s with heap := h', toks := tk' }),
    codeAny (model PySem.Challenge.rw_in0045_01.row.prog w) (AA 360 600 fr) (.call (.ref 38) ⟨[.ref hl, .ref i2], []⟩) R s := by
  k_fill
  intro w mean mg mb hl a cell i0 i1 i2 i3 i4 i5 i6 r k fr base g s R hg ht HK B X T hret
  obtain ⟨H, e0, e1, e2, e3, e4, e5, e6⟩ := HK
  refine' enter0 (tb := [(hl, lobj #[.ref i1, .ref i0] k)]) (binds := [(Str.ofString "heap", .ref hl), (Str.ofString "item", .ref i2)]) g hg ?kt ?k3 ?k5 ?k6 ?k7 ?k8 ?k9 ?kB ?_ ?c2 ?c3 ?c4 ?c5
  (case kt => intro q hq; rw [List.mem_singleton.mp hq]; exact ht)
  walk_at "mine sides0"
  intro L' h' F' N' l0
  repeat' (first | walk1 | (dsimp only; walk1))
  all_goals ((rename Fr _ _ _ _ => F8); (rename News _ _ _ _ => N8); exact hret _ _ _ F8.keep (N8.get (by k_mem)))
theorem push3_spec : ∀ (w : World) (mean : ExcName → Option Value) (mg mb : Str → Option Value) (hl a cell i0 i1 i2 i3 i4 i5 i6 : Addr) (r : KRec) (k : Nat)
    (fr : List Env) (base g : Heap) (s : Shared) (R : Result → Shared → Prop)
    (hg : g = hideAll s.heap [hl]) (ht : s.heap.get? hl = some (lobj #[.ref i2, .ref i0, .ref i1] k)) (HK : Keys w g a cell r i0 i1 i2 i3 i4 i5 i6)
    (B : Below (AA 360 600 fr) base fr g) (X : (Mine.heap39 w.params).In g) (T : Top topProg looseG mean mg mb g)
    (hret : ∀ (h' : Heap) (tk' k' : Nat), (∀ b o, g.get? b = some o → h'.get? b = some o) → h'.get? hl = some (lobj #[.ref i3, .ref i2, .ref i1, .ref i0] k') → R (.ok (.ret (.none))) { s with heap := h', toks := tk' }),
    codeAny (model PySem.Challenge.rw_in0045_01.row.prog w) (AA 360 600 fr) (.call (.ref 38) ⟨[.ref hl, .ref i3], []⟩) R s := by
  k_fill
  intro w mean mg mb hl a cell i0 i1 i2 i3 i4 i5 i6 r k fr base g s R hg ht HK B X T hret
  obtain ⟨H, e0, e1, e2, e3, e4, e5, e6⟩ := HK
  refine' enter0 (tb := [(hl, lobj #[.ref i2, .ref i0, .ref i1] k)]) (binds := [(Str.ofString "heap", .ref hl), (Str.ofString "item", .ref i3)]) g hg ?kt ?k3 ?k5 ?k6 ?k7 ?k8 ?k9 ?kB ?_ ?c2 ?c3 ?c4 ?c5
  (case kt => intro q hq; rw [List.mem_singleton.mp hq]; exact ht)
  walk_at "mine sides0"
  intro L' h' F' N' l0
  repeat' (first | walk1 | (dsimp only; walk1))
  all_goals ((rename Fr _ _ _ _ => F8); (rename News _ _ _ _ => N8); exact hret _ _ _ F8.keep (N8.get (by k_mem)))
end
section
-- text N63
open PySem PySem.W PyProof.Rows PySem.Calls
set_option maxHeartbeats 8000000
theorem push4_spec : ∀ (w : World) (mean : ExcName → Option Value) (mg mb : Str → Option Value) (hl a cell i0 i1 i2 i3 i4 i5 i6 : Addr) (r : KRec) (k : Nat)
    (fr : List Env) (base g : Heap) (s : Shared) (R : Result → Shared → Prop)
    (hg : g = hideAll s.heap [hl]) (ht : s.heap.get? hl = some (lobj #[.ref i3, .ref i2, .ref i1, .ref i0] k)) (HK : Keys w g a cell r i0 i1 i2 i3 i4 i5 i6)
    (B : Below (AA 360 600 fr) base fr g) (X : (Mine.heap39 w.params).In g) (T : Top topProg looseG mean mg mb g)
    (hret : ∀ (h' : Heap) (tk' k' : Nat), (∀ b o, g.get? b = some o → h'.get? b = some o) → h'.get? hl = some (lobj #[.ref i4, .ref i3, .ref i1, .ref i0, .ref i2] k') → R (.ok (.ret (.none))) { s with heap := h', toks := tk' }),
    codeAny (model PySem.Challenge.rw_in0045_01.row.prog w) (AA 360 600 fr) (.call (.ref 38) ⟨[.ref hl, .ref i4], []⟩) R s := by
  k_fill
  intro w mean mg mb hl a cell i0 i1 i2 i3 i4 i5 i6 r k fr base g s R hg ht HK B X T hret
  obtain ⟨H, e0, e1, e2, e3, e4, e5, e6⟩ := HK
  refine' enter0 (tb := [(hl, lobj #[.ref i3, .ref i2, .ref i1, .ref i0] k)]) (binds := [(Str.ofString "heap", .ref hl), (Str.ofString "item", .ref i4)]) g hg ?kt ?k3 ?k5 ?k6 ?k7 ?k8 ?k9 ?kB ?_ ?c2 ?c3 ?c4 ?c5
  (case kt => intro q hq; rw [List.mem_singleton.mp hq]; exact ht)
  walk_at "mine sides0"
  intro L' h' F' N' l0
  repeat' (first | walk1 | (dsimp only; walk1))
  all_goals ((rename Fr _ _ _ _ => F8); (rename News _ _ _ _ => N8); exact hret _ _ _ F8.keep (N8.get (by k_mem)))
theorem push5_spec : ∀ (w : World) (mean : ExcName → Option Value) (mg mb : Str → Option Value) (hl a cell i0 i1 i2 i3 i4 i5 i6 : Addr) (r : KRec) (k : Nat)
    (fr : List Env) (base g : Heap) (s : Shared) (R : Result → Shared → Prop)
    (hg : g = hideAll s.heap [hl]) (ht : s.heap.get? hl = some (lobj #[.ref i4, .ref i3, .ref i1, .ref i0, .ref i2] k)) (HK : Keys w g a cell r i0 i1 i2 i3 i4 i5 i6)
    (B : Below (AA 360 600 fr) base fr g) (X : (Mine.heap39 w.params).In g) (T : Top topProg looseG mean mg mb g)
    (hret : ∀ (h' : Heap) (tk' k' : Nat), (∀ b o, g.get? b = some o → h'.get? b = some o) → h'.get? hl = some (lobj #[.ref i5, .ref i3, .ref i4, .ref i0, .ref i2, .ref i1] k') → R (.ok (.ret (.none))) { s with heap := h', toks := tk' }),
    codeAny (model PySem.Challenge.rw_in0045_01.row.prog w) (AA 360 600 fr) (.call (.ref 38) ⟨[.ref hl, .ref i5], []⟩) R s := by
  k_fill
  intro w mean mg mb hl a cell i0 i1 i2 i3 i4 i5 i6 r k fr base g s R hg ht HK B X T hret
  obtain ⟨H, e0, e1, e2, e3, e4, e5, e6⟩ := HK
  refine' enter0 (tb := [(hl, lobj #[.ref i4, .ref i3, .ref i1, .ref i0, .ref i2] k)]) (binds := [(Str.ofString "heap", .ref hl), (Str.ofString "item", .ref i5)]) g hg ?kt ?k3 ?k5 ?k6 ?k7 ?k8 ?k9 ?kB ?_ ?c2 ?c3 ?c4 ?c5
  (case kt => intro q hq; rw [List.mem_singleton.mp hq]; exact ht)
  walk_at "mine sides0"
  intro L' h' F' N' l0
  repeat' (first | walk1 | (dsimp only; walk1))
  all_goals ((rename Fr _ _ _ _ => F8); (rename News _ _ _ _ => N8); exact hret _ _ _ F8.keep (N8.get (by k_mem)))
theorem push6_spec : ∀ (w : World) (mean : ExcName → Option Value) (mg mb : Str → Option Value) (hl a cell i0 i1 i2 i3 i4 i5 i6 : Addr) (r : KRec) (k : Nat)
    (fr : List Env) (base g : Heap) (s : Shared) (R : Result → Shared → Prop)
    (hg : g = hideAll s.heap [hl]) (ht : s.heap.get? hl = some (lobj #[.ref i5, .ref i3, .ref i4, .ref i0, .ref i2, .ref i1] k)) (HK : Keys w g a cell r i0 i1 i2 i3 i4 i5 i6)
    (B : Below (AA 360 600 fr) base fr g) (X : (Mine.heap39 w.params).In g) (T : Top topProg looseG mean mg mb g)
    (hret : ∀ (h' : Heap) (tk' k' : Nat), (∀ b o, g.get? b = some o → h'.get? b = some o) → h'.get? hl = some (lobj #[.ref i6, .ref i3, .ref i5, .ref i0, .ref i2, .ref i1, .ref i4] k') → R (.ok (.ret (.none))) { s with heap := h', toks := tk' }),
    codeAny (model PySem.Challenge.rw_in0045_01.row.prog w) (AA 360 600 fr) (.call (.ref 38) ⟨[.ref hl, .ref i6], []⟩) R s := by
  k_fill
  intro w mean mg mb hl a cell i0 i1 i2 i3 i4 i5 i6 r k fr base g s R hg ht HK B X T hret
  obtain ⟨H, e0, e1, e2, e3, e4, e5, e6⟩ := HK
  refine' enter0 (tb := [(hl, lobj #[.ref i5, .ref i3, .ref i4, .ref i0, .ref i2, .ref i1] k)]) (binds := [(Str.ofString "heap", .ref hl), (Str.ofString "item", .ref i6)]) g hg ?kt ?k3 ?k5 ?k6 ?k7 ?k8 ?k9 ?kB ?_ ?c2 ?c3 ?c4 ?c5
  (case kt => intro q hq; rw [List.mem_singleton.mp hq]; exact ht)
  walk_at "mine sides0"
  intro L' h' F' N' l0
  repeat' (first | walk1 | (dsimp only; walk1))
  all_goals ((rename Fr _ _ _ _ => F8); (rename News _ _ _ _ => N8); exact hret _ _ _ F8.keep (N8.get (by k_mem)))
end
section
-- text N64
open PySem PySem.W PyProof.Rows PySem.Calls
set_option maxHeartbeats 8000000
theorem pop6_spec : ∀ (w : World) (mean : ExcName → Option Value) (mg mb : Str → Option Value) (hl a cell i0 i1 i2 i3 i4 i5 i6 : Addr) (r : KRec) (k : Nat)
    (fr : List Env) (base g : Heap) (s : Shared) (R : Result → Shared → Prop)
    (hg : g = hideAll s.heap [hl]) (ht : s.heap.get? hl = some (lobj #[.ref i0] k)) (HK : Keys w g a cell r i0 i1 i2 i3 i4 i5 i6)
    (B : Below (AA 360 600 fr) base fr g) (X : (Mine.heap39 w.params).In g) (T : Top topProg looseG mean mg mb g)
    (hret : ∀ (h' : Heap) (tk' k' : Nat), (∀ b o, g.get? b = some o → h'.get? b = some o) → h'.get? hl = some (lobj #[] k') → R (.ok (.ret (.ref i0))) { s with heap := h', toks := tk' }),
    codeAny (model PySem.Challenge.rw_in0045_01.row.prog w) (AA 360 600 fr) (.call (.ref 45) ⟨[.ref hl], []⟩) R s := by
  k_fill
  intro w mean mg mb hl a cell i0 i1 i2 i3 i4 i5 i6 r k fr base g s R hg ht HK B X T hret
  obtain ⟨H, e0, e1, e2, e3, e4, e5, e6⟩ := HK
  refine' enter0 (tb := [(hl, lobj #[.ref i0] k)]) (binds := [(Str.ofString "heap", .ref hl)]) g hg ?kt ?k3 ?k5 ?k6 ?k7 ?k8 ?k9 ?kB ?_ ?c2 ?c3 ?c4 ?c5
  (case kt => intro q hq; rw [List.mem_singleton.mp hq]; exact ht)
  walk_at "mine sides0"
  intro L' h' F' N' l0
  repeat' (first | walk1 | (dsimp only; walk1))
  all_goals ((rename Fr _ _ _ _ => F8); (rename News _ _ _ _ => N8); exact hret _ _ _ F8.keep (N8.get (by k_mem)))
theorem pop5_spec : ∀ (w : World) (mean : ExcName → Option Value) (mg mb : Str → Option Value) (hl a cell i0 i1 i2 i3 i4 i5 i6 : Addr) (r : KRec) (k : Nat)
    (fr : List Env) (base g : Heap) (s : Shared) (R : Result → Shared → Prop)
    (hg : g = hideAll s.heap [hl]) (ht : s.heap.get? hl = some (lobj #[.ref i1, .ref i0] k)) (HK : Keys w g a cell r i0 i1 i2 i3 i4 i5 i6)
    (B : Below (AA 360 600 fr) base fr g) (X : (Mine.heap39 w.params).In g) (T : Top topProg looseG mean mg mb g)
    (hret : ∀ (h' : Heap) (tk' k' : Nat), (∀ b o, g.get? b = some o → h'.get? b = some o) → h'.get? hl = some (lobj #[.ref i0] k') → R (.ok (.ret (.ref i1))) { s with heap := h', toks := tk' }),
    codeAny (model PySem.Challenge.rw_in0045_01.row.prog w) (AA 360 600 fr) (.call (.ref 45) ⟨[.ref hl], []⟩) R s := by
  k_fill
  intro w mean mg mb hl a cell i0 i1 i2 i3 i4 i5 i6 r k fr base g s R hg ht HK B X T hret
  obtain ⟨H, e0, e1, e2, e3, e4, e5, e6⟩ := HK
  refine' enter0 (tb := [(hl, lobj #[.ref i1, .ref i0] k)]) (binds := [(Str.ofString "heap", .ref hl)]) g hg ?kt ?k3 ?k5 ?k6 ?k7 ?k8 ?k9 ?kB ?_ ?c2 ?c3 ?c4 ?c5
  (case kt => intro q hq; rw [List.mem_singleton.mp hq]; exact ht)
  walk_at "mine sides0"
  intro L' h' F' N' l0
  repeat' (first | walk1 | (dsimp only; walk1))
  all_goals ((rename Fr _ _ _ _ => F8); (rename News _ _ _ _ => N8); exact hret _ _ _ F8.keep (N8.get (by k_mem)))
theorem pop4_spec : ∀ (w : World) (mean : ExcName → Option Value) (mg mb : Str → Option Value) (hl a cell i0 i1 i2 i3 i4 i5 i6 : Addr) (r : KRec) (k : Nat)
    (fr : List Env) (base g : Heap) (s : Shared) (R : Result → Shared → Prop)
    (hg : g = hideAll s.heap [hl]) (ht : s.heap.get? hl = some (lobj #[.ref i2, .ref i0, .ref i1] k)) (HK : Keys w g a cell r i0 i1 i2 i3 i4 i5 i6)
    (B : Below (AA 360 600 fr) base fr g) (X : (Mine.heap39 w.params).In g) (T : Top topProg looseG mean mg mb g)
    (hret : ∀ (h' : Heap) (tk' k' : Nat), (∀ b o, g.get? b = some o → h'.get? b = some o) → h'.get? hl = some (lobj #[.ref i1, .ref i0] k') → R (.ok (.ret (.ref i2))) { s with heap := h', toks := tk' }),
    codeAny (model PySem.Challenge.rw_in0045_01.row.prog w) (AA 360 600 fr) (.call (.ref 45) ⟨[.ref hl], []⟩) R s := by
  k_fill
  intro w mean mg mb hl a cell i0 i1 i2 i3 i4 i5 i6 r k fr base g s R hg ht HK B X T hret
  obtain ⟨H, e0, e1, e2, e3, e4, e5, e6⟩ := HK
  refine' enter0 (tb := [(hl, lobj #[.ref i2, .ref i0, .ref i1] k)]) (binds := [(Str.ofString "heap", .ref hl)]) g hg ?kt ?k3 ?k5 ?k6 ?k7 ?k8 ?k9 ?kB ?_ ?c2 ?c3 ?c4 ?c5
  (case kt => intro q hq; rw [List.mem_singleton.mp hq]; exact ht)
  walk_at "mine sides0"
  intro L' h' F' N' l0
  repeat' (first | walk1 | (dsimp only; walk1))
  all_goals ((rename Fr _ _ _ _ => F8); (rename News _ _ _ _ => N8); exact hret _ _ _ F8.keep (N8.get (by k_mem)))
end
section
-- text N65
open PySem PySem.W PyProof.Rows PySem.Calls
set_option maxHeartbeats 8000000
theorem pop3_spec : ∀ (w : World) (mean : ExcName → Option Value) (mg mb : Str → Option Value) (hl a cell i0 i1 i2 i3 i4 i5 i6 : Addr) (r : KRec) (k : Nat)
    (fr : List Env) (base g : Heap) (s : Shared) (R : Result → Shared → Prop)
    (hg : g = hideAll s.heap [hl]) (ht : s.heap.get? hl = some (lobj #[.ref i3, .ref i2, .ref i1, .ref i0] k)) (HK : Keys w g a cell r i0 i1 i2 i3 i4 i5 i6)
    (B : Below (AA 360 600 fr) base fr g) (X : (Mine.heap39 w.params).In g) (T : Top topProg looseG mean mg mb g)
    (hret : ∀ (h' : Heap) (tk' k' : Nat), (∀ b o, g.get? b = some o → h'.get? b = some o) → h'.get? hl = some (lobj #[.ref i2, .ref i0, .ref i1] k') → R (.ok (.ret (.ref i3))) { s with heap := h', toks := tk' }),
    codeAny (model PySem.Challenge.rw_in0045_01.row.prog w) (AA 360 600 fr) (.call (.ref 45) ⟨[.ref hl], []⟩) R s := by
  k_fill
  intro w mean mg mb hl a cell i0 i1 i2 i3 i4 i5 i6 r k fr base g s R hg ht HK B X T hret
  obtain ⟨H, e0, e1, e2, e3, e4, e5, e6⟩ := HK
  refine' enter0 (tb := [(hl, lobj #[.ref i3, .ref i2, .ref i1, .ref i0] k)]) (binds := [(Str.ofString "heap", .ref hl)]) g hg ?kt ?k3 ?k5 ?k6 ?k7 ?k8 ?k9 ?kB ?_ ?c2 ?c3 ?c4 ?c5
  (case kt => intro q hq; rw [List.mem_singleton.mp hq]; exact ht)
  walk_at "mine sides0"
  intro L' h' F' N' l0
  repeat' (first | walk1 | (dsimp only; walk1))
  all_goals ((rename Fr _ _ _ _ => F8); (rename News _ _ _ _ => N8); exact hret _ _ _ F8.keep (N8.get (by k_mem)))
theorem pop2_spec : ∀ (w : World) (mean : ExcName → Option Value) (mg mb : Str → Option Value) (hl a cell i0 i1 i2 i3 i4 i5 i6 : Addr) (r : KRec) (k : Nat)
    (fr : List Env) (base g : Heap) (s : Shared) (R : Result → Shared → Prop)
    (hg : g = hideAll s.heap [hl]) (ht : s.heap.get? hl = some (lobj #[.ref i4, .ref i3, .ref i1, .ref i0, .ref i2] k)) (HK : Keys w g a cell r i0 i1 i2 i3 i4 i5 i6)
    (B : Below (AA 360 600 fr) base fr g) (X : (Mine.heap39 w.params).In g) (T : Top topProg looseG mean mg mb g)
    (hret : ∀ (h' : Heap) (tk' k' : Nat), (∀ b o, g.get? b = some o → h'.get? b = some o) → h'.get? hl = some (lobj #[.ref i3, .ref i2, .ref i1, .ref i0] k') → R (.ok (.ret (.ref i4))) { s with heap := h', toks := tk' }),
    codeAny (model PySem.Challenge.rw_in0045_01.row.prog w) (AA 360 600 fr) (.call (.ref 45) ⟨[.ref hl], []⟩) R s := by
  k_fill
  intro w mean mg mb hl a cell i0 i1 i2 i3 i4 i5 i6 r k fr base g s R hg ht HK B X T hret
  obtain ⟨H, e0, e1, e2, e3, e4, e5, e6⟩ := HK
  refine' enter0 (tb := [(hl, lobj #[.ref i4, .ref i3, .ref i1, .ref i0, .ref i2] k)]) (binds := [(Str.ofString "heap", .ref hl)]) g hg ?kt ?k3 ?k5 ?k6 ?k7 ?k8 ?k9 ?kB ?_ ?c2 ?c3 ?c4 ?c5
  (case kt => intro q hq; rw [List.mem_singleton.mp hq]; exact ht)
  walk_at "mine sides0"
  intro L' h' F' N' l0
  repeat' (first | walk1 | (dsimp only; walk1))
  all_goals ((rename Fr _ _ _ _ => F8); (rename News _ _ _ _ => N8); exact hret _ _ _ F8.keep (N8.get (by k_mem)))
end
section
-- text N66
open PySem PySem.W PyProof.Rows PySem.Calls
set_option maxHeartbeats 8000000
theorem pop1_spec : ∀ (w : World) (mean : ExcName → Option Value) (mg mb : Str → Option Value) (hl a cell i0 i1 i2 i3 i4 i5 i6 : Addr) (r : KRec) (k : Nat)
    (fr : List Env) (base g : Heap) (s : Shared) (R : Result → Shared → Prop)
    (hg : g = hideAll s.heap [hl]) (ht : s.heap.get? hl = some (lobj #[.ref i5, .ref i3, .ref i4, .ref i0, .ref i2, .ref i1] k)) (HK : Keys w g a cell r i0 i1 i2 i3 i4 i5 i6)
    (B : Below (AA 360 600 fr) base fr g) (X : (Mine.heap39 w.params).In g) (T : Top topProg looseG mean mg mb g)
    (hret : ∀ (h' : Heap) (tk' k' : Nat), (∀ b o, g.get? b = some o → h'.get? b = some o) → h'.get? hl = some (lobj #[.ref i4, .ref i3, .ref i1, .ref i0, .ref i2] k') → R (.ok (.ret (.ref i5))) { s with heap := h', toks := tk' }),
    codeAny (model PySem.Challenge.rw_in0045_01.row.prog w) (AA 360 600 fr) (.call (.ref 45) ⟨[.ref hl], []⟩) R s := by
  k_fill
  intro w mean mg mb hl a cell i0 i1 i2 i3 i4 i5 i6 r k fr base g s R hg ht HK B X T hret
  obtain ⟨H, e0, e1, e2, e3, e4, e5, e6⟩ := HK
  refine' enter0 (tb := [(hl, lobj #[.ref i5, .ref i3, .ref i4, .ref i0, .ref i2, .ref i1] k)]) (binds := [(Str.ofString "heap", .ref hl)]) g hg ?kt ?k3 ?k5 ?k6 ?k7 ?k8 ?k9 ?kB ?_ ?c2 ?c3 ?c4 ?c5
  (case kt => intro q hq; rw [List.mem_singleton.mp hq]; exact ht)
  walk_at "mine sides0"
  intro L' h' F' N' l0
  repeat' (first | walk1 | (dsimp only; walk1))
  all_goals ((rename Fr _ _ _ _ => F8); (rename News _ _ _ _ => N8); exact hret _ _ _ F8.keep (N8.get (by k_mem)))
theorem pop0_spec : ∀ (w : World) (mean : ExcName → Option Value) (mg mb : Str → Option Value) (hl a cell i0 i1 i2 i3 i4 i5 i6 : Addr) (r : KRec) (k : Nat)
    (fr : List Env) (base g : Heap) (s : Shared) (R : Result → Shared → Prop)
    (hg : g = hideAll s.heap [hl]) (ht : s.heap.get? hl = some (lobj #[.ref i6, .ref i3, .ref i5, .ref i0, .ref i2, .ref i1, .ref i4] k)) (HK : Keys w g a cell r i0 i1 i2 i3 i4 i5 i6)
    (B : Below (AA 360 600 fr) base fr g) (X : (Mine.heap39 w.params).In g) (T : Top topProg looseG mean mg mb g)
    (hret : ∀ (h' : Heap) (tk' k' : Nat), (∀ b o, g.get? b = some o → h'.get? b = some o) → h'.get? hl = some (lobj #[.ref i5, .ref i3, .ref i4, .ref i0, .ref i2, .ref i1] k') → R (.ok (.ret (.ref i6))) { s with heap := h', toks := tk' }),
    codeAny (model PySem.Challenge.rw_in0045_01.row.prog w) (AA 360 600 fr) (.call (.ref 45) ⟨[.ref hl], []⟩) R s := by
  k_fill
  intro w mean mg mb hl a cell i0 i1 i2 i3 i4 i5 i6 r k fr base g s R hg ht HK B X T hret
  obtain ⟨H, e0, e1, e2, e3, e4, e5, e6⟩ := HK
  refine' enter0 (tb := [(hl, lobj #[.ref i6, .ref i3, .ref i5, .ref i0, .ref i2, .ref i1, .ref i4] k)]) (binds := [(Str.ofString "heap", .ref hl)]) g hg ?kt ?k3 ?k5 ?k6 ?k7 ?k8 ?k9 ?kB ?_ ?c2 ?c3 ?c4 ?c5
  (case kt => intro q hq; rw [List.mem_singleton.mp hq]; exact ht)
  walk_at "mine sides0"
  intro L' h' F' N' l0
  repeat' (first | walk1 | (dsimp only; walk1))
  all_goals ((rename Fr _ _ _ _ => F8); (rename News _ _ _ _ => N8); exact hret _ _ _ F8.keep (N8.get (by k_mem)))
end
section
-- text N74
open PySem PySem.W PyProof.Rows PySem.Calls PySem.Spec
set_option maxHeartbeats 8000000
/-- the heap's list with the first k keys on it -/
def plist (f : Nat → Addr) : Nat → Array Value
  | 0 => #[]
  | 1 => #[.ref (f 0)]
  | 2 => #[.ref (f 1), .ref (f 0)]
  | 3 => #[.ref (f 2), .ref (f 0), .ref (f 1)]
  | 4 => #[.ref (f 3), .ref (f 2), .ref (f 1), .ref (f 0)]
  | 5 => #[.ref (f 4), .ref (f 3), .ref (f 1), .ref (f 0), .ref (f 2)]
  | 6 => #[.ref (f 5), .ref (f 3), .ref (f 4), .ref (f 0), .ref (f 2), .ref (f 1)]
  | _ + 7 => #[.ref (f 6), .ref (f 3), .ref (f 5), .ref (f 0), .ref (f 2), .ref (f 1), .ref (f 4)]
def KeysF (w : World) (h : Heap) (a cell : Addr) (r : KRec) (f : Nat → Addr) : Prop := KHeap w h a cell r ∧ ∀ k, k < 7 → InstAt h a (f k) (nm7 k)
theorem KeysF.keys {w : World} {h : Heap} {a cell : Addr} {r : KRec} {f : Nat → Addr} (x : KeysF w h a cell r f) : Keys w h a cell r (f 0) (f 1) (f 2) (f 3) (f 4) (f 5) (f 6) :=
  ⟨x.1, x.2 0 (by decide), x.2 1 (by decide), x.2 2 (by decide), x.2 3 (by decide), x.2 4 (by decide), x.2 5 (by decide), x.2 6 (by decide)⟩
theorem pushG (w : World) (mean : ExcName → Option Value) (mg mb : Str → Option Value) (hl a cell : Addr) (f : Nat → Addr) (r : KRec) (n : Nat)
    (fr : List Env) (base g : Heap) (s : Shared) (R : Result → Shared → Prop) (k : Nat) (hk : k < 7)
    (hg : g = hideAll s.heap [hl]) (ht : s.heap.get? hl = some (lobj (plist f k) n)) (HK : KeysF w g a cell r f)
    (B : Below (AA 360 600 fr) base fr g) (X : (Mine.heap39 w.params).In g) (T : Top topProg looseG mean mg mb g)
    (hret : ∀ (h' : Heap) (tk' k' : Nat), (∀ b o, g.get? b = some o → h'.get? b = some o) → h'.get? hl = some (lobj (plist f (k + 1)) k') → R (.ok (.ret (.none))) { s with heap := h', toks := tk' }) :
    codeAny (model PySem.Challenge.rw_in0045_01.row.prog w) (AA 360 600 fr) (.call (.ref 38) ⟨[.ref hl, .ref (f k)], []⟩) R s := by
  match k, hk with
  | 0, _ => exact push0_spec w mean mg mb hl a cell _ _ _ _ _ _ _ r n fr base g s R hg ht HK.keys B X T hret
  | 1, _ => exact push1_spec w mean mg mb hl a cell _ _ _ _ _ _ _ r n fr base g s R hg ht HK.keys B X T hret
  | 2, _ => exact push2_spec w mean mg mb hl a cell _ _ _ _ _ _ _ r n fr base g s R hg ht HK.keys B X T hret
  | 3, _ => exact push3_spec w mean mg mb hl a cell _ _ _ _ _ _ _ r n fr base g s R hg ht HK.keys B X T hret
  | 4, _ => exact push4_spec w mean mg mb hl a cell _ _ _ _ _ _ _ r n fr base g s R hg ht HK.keys B X T hret
  | 5, _ => exact push5_spec w mean mg mb hl a cell _ _ _ _ _ _ _ r n fr base g s R hg ht HK.keys B X T hret
  | 6, _ => exact push6_spec w mean mg mb hl a cell _ _ _ _ _ _ _ r n fr base g s R hg ht HK.keys B X T hret
  | k + 7, hk => exact absurd hk (by omega)
theorem popG (w : World) (mean : ExcName → Option Value) (mg mb : Str → Option Value) (hl a cell : Addr) (f : Nat → Addr) (r : KRec) (n : Nat)
    (fr : List Env) (base g : Heap) (s : Shared) (R : Result → Shared → Prop) (k : Nat) (hk : k < 7)
    (hg : g = hideAll s.heap [hl]) (ht : s.heap.get? hl = some (lobj (plist f (k + 1)) n)) (HK : KeysF w g a cell r f)
    (B : Below (AA 360 600 fr) base fr g) (X : (Mine.heap39 w.params).In g) (T : Top topProg looseG mean mg mb g)
    (hret : ∀ (h' : Heap) (tk' k' : Nat), (∀ b o, g.get? b = some o → h'.get? b = some o) → h'.get? hl = some (lobj (plist f k) k') → R (.ok (.ret (.ref (f k)))) { s with heap := h', toks := tk' }) :
    codeAny (model PySem.Challenge.rw_in0045_01.row.prog w) (AA 360 600 fr) (.call (.ref 45) ⟨[.ref hl], []⟩) R s := by
  match k, hk with
  | 0, _ => exact pop6_spec w mean mg mb hl a cell _ _ _ _ _ _ _ r n fr base g s R hg ht HK.keys B X T hret
  | 1, _ => exact pop5_spec w mean mg mb hl a cell _ _ _ _ _ _ _ r n fr base g s R hg ht HK.keys B X T hret
  | 2, _ => exact pop4_spec w mean mg mb hl a cell _ _ _ _ _ _ _ r n fr base g s R hg ht HK.keys B X T hret
  | 3, _ => exact pop3_spec w mean mg mb hl a cell _ _ _ _ _ _ _ r n fr base g s R hg ht HK.keys B X T hret
  | 4, _ => exact pop2_spec w mean mg mb hl a cell _ _ _ _ _ _ _ r n fr base g s R hg ht HK.keys B X T hret
  | 5, _ => exact pop1_spec w mean mg mb hl a cell _ _ _ _ _ _ _ r n fr base g s R hg ht HK.keys B X T hret
  | 6, _ => exact pop0_spec w mean mg mb hl a cell _ _ _ _ _ _ _ r n fr base g s R hg ht HK.keys B X T hret
  | k + 7, hk => exact absurd hk (by omega)
theorem keysF_of {w : World} {g3 : Heap} {aK cell : Addr} {r : KRec} {kr : List (Addr × Obj)} {ys : List Value} {insts : List Addr} (KS : KSub w aK cell r kr) (P : Pairs aK kr ys insts) (hn : insts.length = 7) (hk : ∀ p ∈ kr, g3.get? p.1 = some p.2) : KeysF w g3 aK cell r (fun k => insts.getD k 0) := by
  obtain ⟨⟨⟨o, a1, a2⟩, _⟩, b⟩ := KS
  refine ⟨⟨o, a1, hk _ a2, fun p hp => hk p (b p hp)⟩, fun k hk7 => ?_⟩
  have e : insts[k]? = some (insts.getD k 0) := by
    rw [List.getD_eq_getElem?_getD, List.getElem?_eq_getElem (by omega)]; rfl
  obtain ⟨l, d, t, t', n, _, _, h3⟩ := P.at' k _ e
  refine ⟨d, t', hk _ h3, ?_⟩
  obtain h | h | h | h | h | h | h : k = 0 ∨ k = 1 ∨ k = 2 ∨ k = 3 ∨ k = 4 ∨ k = 5 ∨ k = 6 := lt7 (by first | assumption | omega)
  all_goals (subst h; decide +kernel)
section
variable {prog : Program} {w : World} {A : Around} {E : Value → Shared → Prop} {s : Shared}
theorem ne_empty {l b : Addr} {items : Array Value} {Q : Value → Shared → Prop} (hl : s.heap.IsList l items) (hb : s.heap.IsList b #[]) (hu : A.units < cLine) (h : Q (.bool (items.size != 0)) s) : wpAny (model prog w) A (compareOp .NotEq (.ref l) (.ref b)) Q E s := by
  by_cases e : items.size = 0
  · have e' : items = #[] := Array.size_eq_zero_iff.mp e
    subst e'
    exact SeqAt.RcNeAt.lists (e := fun _ => true) hl hb rfl hu (fun j h1 => absurd h1 (Nat.not_lt_zero _)) prog w E Q h
  · have e2 : (items.size != (#[] : Array Value).size) = true := by simpa using e
    have e3 : (items.size != 0) = true := by simpa using e
    rw [e3] at h
    exact SeqAt.RcNeAt.lists_lengths hl hb e2 hu prog w E Q h
end
/-- the first j names that come off -/
def OrdAre (os : List Value) (j : Nat) : Prop := os.length = j ∧ ∀ k, k < j → ∃ t, os[k]? = some (.str (nm7 (6 - k)) t)
theorem OrdAre.nil : OrdAre [] 0 := ⟨rfl, fun _ h => absurd h (Nat.not_lt_zero _)⟩
theorem OrdAre.snoc {os : List Value} {j : Nat} {t : Tok} (h : OrdAre os j) : OrdAre (os ++ [.str (nm7 (6 - j)) t]) (j + 1) := by
  refine ⟨by rw [List.length_append, h.1]; rfl, fun k hk => ?_⟩
  by_cases e : k < j
  · obtain ⟨u, hu⟩ := h.2 k e
    exact ⟨u, by rw [List.getElem?_append_left (by rw [h.1]; exact e)]; exact hu⟩
  · obtain rfl : k = j := by omega
    refine ⟨t, ?_⟩
    have := h.1
    subst this
    exact List.getElem?_concat_length ..
theorem plist_size (f : Nat → Addr) (k : Nat) (hk : k ≤ 7) : (plist f k).size = k := by
  obtain h | h | h | h | h | h | h | h : k = 0 ∨ k = 1 ∨ k = 2 ∨ k = 3 ∨ k = 4 ∨ k = 5 ∨ k = 6 ∨ k = 7 := by omega
  all_goals (subst h; rfl)
end
section
-- text C11
open PySem PySem.W PyProof.Rows PySem.Calls
set_option maxHeartbeats 8000000
theorem rows_C11 : True := by
  k_with_none
  k_with "mine sides0" => ((case k3 => k_asm); (case k5 => k_asm); (case k6 => k_is); (case k7 => k_is); (case k8 => exact Nat.le_of_ble_eq_true rfl); (case k9 => first | exact BindsTo.of_eq rfl | exact binds_K (by k_in) rfl (by k_is) rfl rfl rfl); (case c5 => decide); (case kB => exact locs rfl); (case c2 => exact rfl); (case c3 => exact rfl); (case c4 => exact rfl))
  k_with "mine sidesC" => ((case k3 => k_asm); (case k5 => k_asm); (case k6 => k_is); (case k7 => k_is); (case k8 => exact Nat.le_of_ble_eq_true rfl); (case k9 => first | exact BindsTo.of_eq rfl | exact binds_K (by k_in) rfl (by k_is) rfl rfl rfl); (case kB => exact rfl); (case kD => decide +kernel); (case c2 => exact rfl); (case c3 => exact rfl); (case c4 => exact rfl))
  k_with "mine enter0" => ((refine' enterS (by k_asm) (by k_asm) (by k_is) (by k_is) (by exact Nat.le_of_ble_eq_true rfl) (by first | exact BindsTo.of_eq rfl | exact binds_K (by k_in) rfl (by k_is) rfl rfl rfl) (by exact locs rfl) ?_ (by exact rfl) (by exact rfl) (by exact rfl) (by decide); k_whole; intro L' h' F' N'); (try (revert L' h' F' N'; intros)))
  k_with "mine enterC" => ((refine' enterSC (by k_asm) (by k_asm) (by k_is) (by k_is) (by exact Nat.le_of_ble_eq_true rfl) (by first | exact BindsTo.of_eq rfl | exact binds_K (by k_in) rfl (by k_is) rfl rfl rfl) (by exact rfl) (by decide +kernel) ?_ (by exact rfl) (by exact rfl) (by exact rfl); k_whole; intro L' h' tk' cells' F' N' Y'; k_cells Y'; (try simp only [List.cons_append, List.nil_append, List.append_nil] at N')); (try (revert L' h' tk' cells' F' N' Y'; intros)))
  k_with "eval ListComp" => (k_here; lcf_look; k_dflt (refine LCg.ListComp_U (F₀ := by k_asm) (by with_unfolding_all rfl) (by decide) (by rfl) (by decide) (by rfl) ?_); k_dflt lcg_toSrc)
  k_with "CompSrc" => (k_here; k_dflt (first | (refine LCg.CompSrc.ledger (by rfl) (by k_asm) (by k_asm) (by k_mem) (by first | size_fits | exact Nat.le_of_ble_eq_true rfl) ?_; intro g'; lcg_lit) | (refine LCg.CompSrc.base (by rfl) (by k_asm) (by k_asm) (by assumption) (by first | size_fits | exact Nat.le_of_ble_eq_true rfl) ?_; intro g'; lcg_lit) | (refine LCg.CompSrc.range (by rfl) (by k_asm) (by k_asm) (by assumption) (by first | decide | rfl) (by first | rfl | decide) (by first | size_fits | exact Nat.le_of_ble_eq_true rfl) ?_; intro g'; lcg_lit)))
  k_with "getMethod str" => ((with_reducible show wpAny _ _ (getMethod (Value.str _ _) (PySem.Str.ofString "translate") _) _ _ _); refine GM.of _ (typeIs_str _ _ _) F.slot_str_translate F.type_str_translate GM.noRef ?_)
  k_with "call builtin:str.translate" => ((k_here; k_dflt (refine' translate_K (by k_asm) (by k_asm) (by k_asm) (by k_is) (by decide +kernel) (by assumption) (by rfl) (by rfl) (by rename _ ∨ _ => hn9; rcases hn9 with e | e <;> (rw [e]; decide +kernel)) ?_; k_whole); intro t9 h9 tk9 F9 N9); (try (revert t9 h9 tk9 F9 N9; intros)))
  k_with "getAttr ref" => ((k_here; (with_reducible show wpAny _ _ (getAttr (Value.ref _) (PySem.Str.ofString "append") _) _ _ _); k_dflt (refine' getAttr_append_K (by k_asm) (by k_asm) (by k_mem) ?_; k_whole); intro u' h' tk' F' N' l1; (try k_lt l1); (try k_sweep)); (try (revert u' h' tk' F' N' l1; intros)))
  k_with "callWith ref" => (k_here; (with_reducible show wpAny _ _ (callWith _ (Value.ref _) _ (backTo _ (starEach (_ :: _) _)) []) _ _ _); k_dflt (refine' callWith_bnd_K (by k_asm) (by k_mem) ?_; k_whole))
  k_with "And" => ((with_reducible show BndAt _ _ _ _ ∧ _); k_dflt (refine ⟨bndAt_of (by k_asm) (by k_mem), ?_⟩); (try dsimp only [List.nil_append, List.cons_append]))
  k_with "call ref" => ((k_here; k_dflt (refine' call_bnd_append_K (by k_asm) (by k_asm) (by k_mem) (by k_updF) (by first | assumption | size_fits | exact Nat.le_of_ble_eq_true rfl) ?_; k_whole); intro h' F' N'; (try dsimp only at N'); (try k_sweep)); (try (revert h' F' N'; intros)))
  k_with "exec While Compare cons nil" => (k_here; (with_reducible show wpAny _ _ (exec (Stmt.While _ _ _ _) _) _ _ _); refine Stop.go ?_)
  k_with "call builtin:len" => ((k_here; (with_reducible show wpAny _ _ (call (Value.builtin "len") [Value.str (Str.mk _) _]) _ _ _); (first | refine len_known 3 rfl rfl ?_ | refine len_known 2 rfl rfl ?_ | refine len_known 1 rfl rfl ?_ | refine len_known 0 rfl rfl ?_); intro t9 k9); (try (revert t9 k9; intros)))
  k_with "subscriptTail Name Name str int" => ((k_here; (with_reducible show wpAny _ _ (subscriptTail _ _ (Value.str _ _) (Value.int _ _)) _ _ _); k_dflt (refine' item_at (by assumption) (by omega) ?_; k_whole); intro t9 k9); (try (revert t9 k9; intros)))
  k_with "subscriptTail" => (k_here; (with_reducible show wpAny _ _ (subscriptTail _ _ (Value.ref _) (Value.int (-1) _)) _ _ _); k_dflt (refine' item_last (by k_asm) (by k_mem) (by omega) ?_; k_whole))
  k_with "truthy ref" => ((k_here; (with_reducible show wpAny _ _ (truthy (Value.ref _)) _ _ _); k_dflt (first | (refine' truthy_known true (by k_asm) (by k_mem) (by (first | assumption | exact Nat.le_of_ble_eq_true rfl | (simp only [Array.size_push]; omega))) (by (first | rfl | (simp; done))) ?_; k_whole) | (refine' truthy_known false (by k_asm) (by k_mem) (by (first | assumption | exact Nat.le_of_ble_eq_true rfl)) (by rfl) ?_; k_whole)); intro k9); (try (revert k9; intros)))
  k_with "ite" => (k_closed; k_dflt (first | refine ite_pos (by decide +kernel) ?_ | refine ite_neg (by decide +kernel) ?_))
  k_with "exec For Name Call cons nil" => (k_here; (with_reducible show wpAny _ _ (exec (Stmt.For _ _ _ _ _) _) _ _ _); refine Stop.go ?_)
  k_with "pyIter ref" => (k_here; (with_reducible show wpAny _ _ (pyIter _) (fun _ _ => LoopAtV _ _ _ _ _ _ _ _ _ _ _) _ _); refine Stop.go ?_)
  k_with "call builtin:len" => ((k_here; (with_reducible show wpAny _ _ (call (Value.builtin "len") [Value.ref _]) _ _ _); k_dflt (refine' len_list_is (by first | assumption | exact Fr.lst (by assumption) (by assumption)) (by assumption) (by omega) ?_; k_whole); intro t9 k9); (try (revert t9 k9; intros)))
  k_with "compareOp In int ref" => (k_here; k_dflt (refine' in_list_ints (by is_list) (by assumption) ?_; k_whole))
  k_with "subscriptTail Name BinOp ref int" => (k_here; k_dflt (refine' item_pred (by is_list) (by assumption) (by omega) ?_; k_whole))
  k_with "binaryOp Add ref ref" => ((k_here; k_dflt (refine' add_ints_K (by k_asm) (by k_asm) (by k_mem) (by k_mem) (by assumption) (by omega) ?_; k_whole); intro D' h' ws' F' N' hI'); (try (revert D' h' ws' F' N' hI'; intros)))
  k_with "exec Assign cons ListComp" => (k_here; lct_look; k_dflt (refine LCt.Assign_ListComp_T (F₀ := by k_asm) (by rfl) (by with_unfolding_all rfl) (by with_unfolding_all rfl) (by decide) (by rfl) (by decide) (by rfl) (by rfl) (by rfl) ?_); k_dflt lct_toSrc)
  k_with "CompSrcT" => (k_here; refine Stop.go ?_)
  k_with "CompEnd" => (k_here; refine Stop.go ?_)
  k_with "subscriptTail Name Name ref int" => (k_here; k_dflt (refine' item_nat_list (by is_list) (by assumption) (by omega) ?_; k_whole))
  k_with "compareOp In none ref" => (k_here; k_dflt (refine' in_disp (by is_list) (by assumption) ?_; k_whole))
  k_with "compareOp In str ref" => (k_here; k_dflt (refine' in_disp (by is_list) (by assumption) ?_; k_whole))
  k_with "mine use80" => (refine wpAny_call ?_; (refine' use0 (d := 380) (u := 800) ?B ?F ?X ?T ?hA ?hf ?hk ?hh ?hd ?hu ?_; (case B => k_asm); (case F => k_asm); (case X => k_asm); (case T => k_asm); (case hA => exact rfl); (case hf => exact rfl); (case hk => exact rfl); (case hh => exact rfl); (case hd => exact Nat.le_of_ble_eq_true rfl); (case hu => exact Nat.le_of_ble_eq_true rfl)))
  k_with "call builtin:iter" => ((k_here; (with_reducible show wpAny _ _ (call (Value.builtin "iter") [Value.str _ _]) _ _ _); k_dflt (refine' iter_str_K (by k_asm) (by k_asm) (by assumption) ?_; k_whole); intro I9 h9 F9 N9 l9 f9; (try k_lt l9)); (try (revert I9 h9 F9 N9 l9 f9; intros)))
  k_with "compareOp Is ref ref" => (k_here; (with_reducible show wpAny _ _ (compareOp CmpOp.Is (Value.ref _) (Value.ref _)) _ _ _); k_dflt (refine' is_list_other (by is_list) (by kto_obj) (by assumption) ?_; k_whole))
  k_with "mine use70" => (refine wpAny_call ?_; (refine' use0 (d := 370) (u := 700) ?B ?F ?X ?T ?hA ?hf ?hk ?hh ?hd ?hu ?_; (case B => k_asm); (case F => k_asm); (case X => k_asm); (case T => k_asm); (case hA => exact rfl); (case hf => exact rfl); (case hk => exact rfl); (case hh => exact rfl); (case hd => exact Nat.le_of_ble_eq_true rfl); (case hu => exact Nat.le_of_ble_eq_true rfl)))
  k_with "mine use60" => (refine wpAny_call ?_; (refine' use0 (d := 360) (u := 600) ?B ?F ?X ?T ?hA ?hf ?hk ?hh ?hd ?hu ?_; (case B => k_asm); (case F => k_asm); (case X => k_asm); (case T => k_asm); (case hA => exact rfl); (case hf => exact rfl); (case hk => exact rfl); (case hh => exact rfl); (case hd => exact Nat.le_of_ble_eq_true rfl); (case hu => exact Nat.le_of_ble_eq_true rfl)))
  k_with "mine use50" => (refine wpAny_call ?_; (refine' use0 (d := 350) (u := 500) ?B ?F ?X ?T ?hA ?hf ?hk ?hh ?hd ?hu ?_; (case B => k_asm); (case F => k_asm); (case X => k_asm); (case T => k_asm); (case hA => exact rfl); (case hf => exact rfl); (case hk => exact rfl); (case hh => exact rfl); (case hd => exact Nat.le_of_ble_eq_true rfl); (case hu => exact Nat.le_of_ble_eq_true rfl)))
  k_with "eval Name" => (k_here; kc_free; k_dflt (refine' nameX_old (by k_asm) (by rfl) (by assumption) ?_ (by rfl) (by rfl); k_whole))
  k_with "call builtin:iter" => ((k_here; (with_reducible show wpAny _ _ (call (Value.builtin "iter") [Value.ref _]) _ _ _); k_dflt (refine' iter_list_K (by k_asm) (by k_asm) (by is_list) ?_; k_whole); intro I9 h9 F9 N9 l9 f9; (try k_lt l9)); (try (revert I9 h9 F9 N9 l9 f9; intros)))
  k_with "exec For Name Name cons nil" => (k_here; (with_reducible show wpAny _ _ (exec (Stmt.For _ _ _ _ _) _) _ _ _); refine Stop.go ?_)
  k_with "callWith ref" => (k_here; (with_reducible show wpAny _ _ (callWith _ (Value.ref _) _ (backTo _ (starEach (_ :: _) _)) []) _ _ _); k_dflt (refine' callWith_F (by exact fnAt_kept (by k_asm) (by assumption)) ?_; k_whole))
  k_with "And" => ((with_reducible show FnAt _ _ ∧ _); k_dflt (refine ⟨fnAt_kept (by k_asm) (by assumption), ?_⟩); (try dsimp only [List.nil_append, List.cons_append]))
  k_with "call ref" => (k_here; (with_reducible show wpAny _ _ (call (Value.ref _) [Value.int _ _, Value.ref _]) _ _ _); refine Stop.go ?_)
  k_with "compareOp Is int ref" => (k_here; (with_reducible show wpAny _ _ (compareOp CmpOp.Is (Value.int _ _) (Value.ref _)) _ _ _); refine wpAny_is_other (by rfl) (by intro x; cases x) ?_)
  k_with "compareOp Eq str str" => (k_here; (with_reducible show wpAny _ _ (compareOp CmpOp.Eq (Value.str _ _) (Value.str _ _)) _ _ _); k_dflt (first | refine eq_txt true nil_is ?_ | refine eq_txt false cons_is ?_ | refine eq_txt _ (star_is (by assumption)) ?_))
  k_with "compareOp NotEq str str" => (k_here; (with_reducible show wpAny _ _ (compareOp CmpOp.NotEq (Value.str _ _) (Value.str _ _)) _ _ _); k_dflt (first | refine ne_txt false nil_ne ?_ | refine ne_txt true cons_ne ?_))
  k_with "subscriptTail Name Constant str int" => ((k_here; (with_reducible show wpAny _ _ (subscriptTail _ _ (Value.str _ _) (Value.int _ _)) _ _ _); k_dflt (refine' item_head ?_; k_whole); intro t9 k9); (try (revert t9 k9; intros)))
  k_with "subscriptTail Name Slice str ref" => ((k_here; k_dflt (refine' slice_tail_K (by exact lenAt.le (by assumption)) (by k_asm) (by k_asm) ?_; k_whole); intro h9 t9 k9 F9 N9); (try (revert h9 t9 k9 F9 N9; intros)))
  k_with "compareOp In str ref" => (k_here; k_dflt (refine' in_twoB (by assumption) (by is_list) ?_; k_whole))
  k_with "call ref" => ((k_here; (with_reducible show wpAny _ _ (call (Value.ref 142) [Value.str _ _, Value.str _ _]) _ _ _); k_dflt (refine wpAny_call ?_; (refine' useD (by k_asm) (by k_asm) (by k_asm) (by k_asm) (by exact rfl) (by exact rfl) (by exact rfl) ?_); intro B9 X9 T9; (refine' (show FitsH _ _ _ _ _ _ by assumption) _ _ _ _ _ _ _ _ _ _ ?c0 ?c1 ?c2 ?c3 ?c4 B9 X9 T9 ?_; (case c0 => assumption); (case c1 => (simp only [List.length_cons, List.length_nil] at *; omega)); (case c2 => omega); (case c3 => assumption); (case c4 => assumption)); clear B9 X9 T9; intro h9 tk9 x9; (have F9 := Fr.keeps (by k_asm) x9); (have N9 := News.keeps (by k_asm) x9); clear x9; (try dsimp only); (try k_sweep))); (try (revert h9 tk9 F9 N9; intros)))
  trivial
def lenAt (cs : List Nat) : Prop := cs.length ≤ 8
theorem lenAt.le {cs : List Nat} (h : lenAt cs) : cs.length ≤ 1000 := Nat.le_trans h (by decide)
def FitsH (w : World) (mean : ExcName → Option Value) (mg mb : Str → Option Value) (base : Heap) (k : Nat) : Prop :=
  ∀ (cs ns : List Nat) (b : Bool) (t1 t2 : Tok) (d u : Nat) (fr : List Env) (s : Shared) (R : Result → Shared → Prop),
    fitsF cs ns = b → cs.length + ns.length ≤ k → d + k < 500 → lenAt cs → lenAt ns →
    Below (AA d u fr) base fr s.heap → (Mine.heap39 w.params).In s.heap → Top topProg looseG mean mg mb s.heap →
    (∀ (h' : Heap) (tk' : Nat), (∀ b o, s.heap.get? b = some o → h'.get? b = some o) → R (.ok (.ret (.bool b))) { s with heap := h', toks := tk' }) →
    codeAny (model PySem.Challenge.rw_in0045_01.row.prog w) (AA d u fr) (.call (.ref 142) ⟨[.str (tx cs) t1, .str (tx ns) t2], []⟩) R s
section
variable {A₀ : Around} {M : Model} {base h₀ : Heap} {outer fr : List Env} {L : Addr} {m mg mb : Str → Option Value} {env : Env} {K : Frag} {p : Program} {loose : List Str} {mean : ExcName → Option Value} {s : Shared} {R : Result → Shared → Prop} {d u : Nat} {c : Code}
theorem useD (B : Below A₀ base outer h₀) (F : Fr h₀ L s.heap m) (X : K.In h₀) (T : Top p loose mean mg mb h₀) (hA : ((AA d u fr).deeper env).frames = some (env :: outer)) (hf : env.frame = some L) (hke : env.scope.kind = .function)
    (spec : Below (AA (d + 1) (u + 3) (env :: outer)) base (env :: outer) s.heap → K.In s.heap → Top p loose mean mg mb s.heap → codeAny M (AA (d + 1) (u + 3) (env :: outer)) c R s) : codeAny M ((AA d u fr).deeper env) c R s :=
  use0 (d := d + 1) (u := u + 3) B F X T hA hf hke rfl (Nat.le_refl (d + 1)) (Nat.le_refl (u + 3)) spec
end
section
variable {prog : Program} {w : World} {A : Around} {E : Value → Shared → Prop} {s : Shared}
theorem in_twoB {D : Addr} {n c : Nat} {b : Bool} {t t1 t2 : Tok} {Q : Value → Shared → Prop} (hb : (c == 63 || c == n) = b) (hl : s.heap.IsList D #[.str (Str.ofString "?") t1, .str ⟨#[n]⟩ t2]) (h : Q (.bool b) s) :
    wpAny (model prog w) A (compareOp .In (.str ⟨#[c]⟩ t) (.ref D)) Q E s := in_two hl (by rw [hb]; exact h)
end
theorem fits_ind : ∀ (w : World) (mean : ExcName → Option Value) (mg mb : Str → Option Value) (base : Heap) (k : Nat) (cs ns : List Nat) (b : Bool) (t1 t2 : Tok) (d u : Nat)
    (fr : List Env) (s : Shared) (R : Result → Shared → Prop)
    (hb : fitsF cs ns = b) (hk : cs.length + ns.length ≤ k) (hd : d + k < 500) (hcs : lenAt cs) (hns : lenAt ns)
    (B : Below (AA d u fr) base fr s.heap) (X : (Mine.heap39 w.params).In s.heap) (T : Top topProg looseG mean mg mb s.heap)
    (hret : ∀ (h' : Heap) (tk' : Nat), (∀ b o, s.heap.get? b = some o → h'.get? b = some o) →
      R (.ok (.ret (.bool b))) { s with heap := h', toks := tk' }),
    codeAny (model PySem.Challenge.rw_in0045_01.row.prog w) (AA d u fr) (.call (.ref 142) ⟨[.str (tx cs) t1, .str (tx ns) t2], []⟩) R s := by
  k_fill
  intro w mean mg mb base k
  induction k with
  | zero =>
    intro cs ns b t1 t2 d u fr s R hb hk hd hcs hns B X T hret
    have e1 : cs = [] := List.eq_nil_of_length_eq_zero (by omega)
    have e2 : ns = [] := List.eq_nil_of_length_eq_zero (by omega)
    subst e1
    subst e2
    refine' enterS (binds := [(Str.ofString "pattern", .str (tx []) t1), (Str.ofString "name", .str (tx []) t2)]) ?k3 ?k5 ?k6 ?k7 (show d < 1000 by omega) ?k9 ?kB ?_ ?c2 ?c3 ?c4 ?c5
    (case k3 => k_asm)
    (case k5 => k_asm)
    (case k6 => k_is)
    (case k7 => k_is)
    (case k9 => first | exact BindsTo.of_eq rfl | exact binds_K (by k_in) rfl (by k_is) rfl rfl rfl)
    (case kB => exact locs rfl)
    (case c2 => exact rfl)
    (case c3 => exact rfl)
    (case c4 => exact rfl)
    (case c5 => decide)
    intro L' h' F' N'
    rw [show fitsF [] [] = true by clear hb; simp [fitsF, *]] at hb
    subst hb
    repeat' (first | walk1 | (dsimp only; walk1))
    all_goals exact hret _ _ (Fr.keep (by assumption))
  | succ k ih =>
    intro cs ns b t1 t2 d u fr s R hb hk hd hcs hns B X T hret
    have ih : FitsH w mean mg mb base k := ih
    refine' enterS (binds := [(Str.ofString "pattern", .str (tx cs) t1), (Str.ofString "name", .str (tx ns) t2)]) ?k3 ?k5 ?k6 ?k7 (show d < 1000 by omega) ?k9 ?kB ?_ ?c2 ?c3 ?c4 ?c5
    (case k3 => k_asm)
    (case k5 => k_asm)
    (case k6 => k_is)
    (case k7 => k_is)
    (case k9 => first | exact BindsTo.of_eq rfl | exact binds_K (by k_in) rfl (by k_is) rfl rfl rfl)
    (case kB => exact locs rfl)
    (case c2 => exact rfl)
    (case c3 => exact rfl)
    (case c4 => exact rfl)
    (case c5 => decide)
    intro L' h' F' N'
    cases cs with
    | nil =>
      cases ns with
      | nil =>
        rw [show fitsF [] [] = true by clear hb; simp [fitsF, *]] at hb
        subst hb
        repeat' (first | walk1 | (dsimp only; walk1))
        all_goals exact hret _ _ (Fr.keep (by assumption))
      | cons n ns =>
        rw [show fitsF [] (n :: ns) = false by clear hb; simp [fitsF, *]] at hb
        subst hb
        repeat' (first | walk1 | (dsimp only; walk1))
        all_goals exact hret _ _ (Fr.keep (by assumption))
    | cons c cs =>
      have hcs2 : lenAt cs := Nat.le_of_succ_le hcs
      cases h42 : (c == 42) with
      | true =>
        cases ns with
        | nil =>
          cases h1 : fitsF cs [] with
          | true =>
            rw [show fitsF (c :: cs) [] = true by clear hb; simp [fitsF, *]] at hb
            subst hb
            repeat' (first | walk1 | (dsimp only; walk1))
            all_goals exact hret _ _ (Fr.keep (by assumption))
          | false =>
            rw [show fitsF (c :: cs) [] = false by clear hb; simp [fitsF, *]] at hb
            subst hb
            repeat' (first | walk1 | (dsimp only; walk1))
            all_goals exact hret _ _ (Fr.keep (by assumption))
        | cons n ns =>
          have hns2 : lenAt ns := Nat.le_of_succ_le hns
          cases h1 : fitsF cs (n :: ns) with
          | true =>
            rw [show fitsF (c :: cs) (n :: ns) = true by clear hb; simp [fitsF, *]] at hb
            subst hb
            repeat' (first | walk1 | (dsimp only; walk1))
            all_goals exact hret _ _ (Fr.keep (by assumption))
          | false =>
            cases h2 : fitsF (c :: cs) ns with
            | true =>
              rw [show fitsF (c :: cs) (n :: ns) = true by clear hb; simp [fitsF, *]] at hb
              subst hb
              repeat' (first | walk1 | (dsimp only; walk1))
              all_goals exact hret _ _ (Fr.keep (by assumption))
            | false =>
              rw [show fitsF (c :: cs) (n :: ns) = false by clear hb; simp [fitsF, *]] at hb
              subst hb
              repeat' (first | walk1 | (dsimp only; walk1))
              all_goals exact hret _ _ (Fr.keep (by assumption))
      | false =>
        cases ns with
        | nil =>
          rw [show fitsF (c :: cs) [] = false by clear hb; simp [fitsF, *]] at hb
          subst hb
          repeat' (first | walk1 | (dsimp only; walk1))
          all_goals exact hret _ _ (Fr.keep (by assumption))
        | cons n ns =>
          have hns2 : lenAt ns := Nat.le_of_succ_le hns
          cases h3 : (c == 63 || c == n) with
          | false =>
            rw [show fitsF (c :: cs) (n :: ns) = false by clear hb; simp [fitsF, *]] at hb
            subst hb
            repeat' (first | walk1 | (dsimp only; walk1))
            all_goals exact hret _ _ (Fr.keep (by assumption))
          | true =>
            cases h1 : fitsF cs ns with
            | true =>
              rw [show fitsF (c :: cs) (n :: ns) = true by clear hb; simp [fitsF, *]] at hb
              subst hb
              repeat' (first | walk1 | (dsimp only; walk1))
              all_goals exact hret _ _ (Fr.keep (by assumption))
            | false =>
              rw [show fitsF (c :: cs) (n :: ns) = false by clear hb; simp [fitsF, *]] at hb
              subst hb
              repeat' (first | walk1 | (dsimp only; walk1))
              all_goals exact hret _ _ (Fr.keep (by assumption))
end
section
-- text N72
local macro_rules | `(tactic| k_ne) => `(tactic| (refine PySem.W.neN ?_; (try dsimp only); first | with_reducible assumption | walk_at "mine ne" | omega))
open PySem PySem.W PyProof.Rows PySem.Calls PyProof.Rows.LCg PyProof.Rows.LCt
set_option maxHeartbeats 8000000
theorem rows_N72 : True := by
  k_with_none
  k_with "mine sides0" => ((case k3 => k_asm); (case k5 => k_asm); (case k6 => k_is); (case k7 => k_is); (case k8 => exact Nat.le_of_ble_eq_true rfl); (case k9 => first | exact BindsTo.of_eq rfl | exact binds_K (by k_in) rfl (by k_is) rfl rfl rfl); (case c5 => decide); (case kB => exact locs rfl); (case c2 => exact rfl); (case c3 => exact rfl); (case c4 => exact rfl))
  k_with "mine sidesC" => ((case k3 => k_asm); (case k5 => k_asm); (case k6 => k_is); (case k7 => k_is); (case k8 => exact Nat.le_of_ble_eq_true rfl); (case k9 => first | exact BindsTo.of_eq rfl | exact binds_K (by k_in) rfl (by k_is) rfl rfl rfl); (case kB => exact rfl); (case kD => decide +kernel); (case c2 => exact rfl); (case c3 => exact rfl); (case c4 => exact rfl))
  k_with "mine enter0" => ((refine' enterS (by k_asm) (by k_asm) (by k_is) (by k_is) (by exact Nat.le_of_ble_eq_true rfl) (by first | exact BindsTo.of_eq rfl | exact binds_K (by k_in) rfl (by k_is) rfl rfl rfl) (by exact locs rfl) ?_ (by exact rfl) (by exact rfl) (by exact rfl) (by decide); k_whole; intro L' h' F' N'); (try (revert L' h' F' N'; intros)))
  k_with "mine enterC" => ((refine' enterSC (by k_asm) (by k_asm) (by k_is) (by k_is) (by exact Nat.le_of_ble_eq_true rfl) (by first | exact BindsTo.of_eq rfl | exact binds_K (by k_in) rfl (by k_is) rfl rfl rfl) (by exact rfl) (by decide +kernel) ?_ (by exact rfl) (by exact rfl) (by exact rfl); k_whole; intro L' h' tk' cells' F' N' Y'; k_cells Y'; (try simp only [List.cons_append, List.nil_append, List.append_nil] at N')); (try (revert L' h' tk' cells' F' N' Y'; intros)))
  k_with "eval ListComp" => (k_here; lcf_look; k_dflt (refine LCg.ListComp_U (F₀ := by k_asm) (by with_unfolding_all rfl) (by decide) (by rfl) (by decide) (by rfl) ?_); k_dflt lcg_toSrc)
  k_with "CompSrc" => (k_here; k_dflt (first | (refine LCg.CompSrc.ledger (by rfl) (by k_asm) (by k_asm) (by k_mem) (by first | size_fits | exact Nat.le_of_ble_eq_true rfl) ?_; intro g'; lcg_lit) | (refine LCg.CompSrc.base (by rfl) (by k_asm) (by k_asm) (by assumption) (by first | size_fits | exact Nat.le_of_ble_eq_true rfl) ?_; intro g'; lcg_lit) | (refine LCg.CompSrc.range (by rfl) (by k_asm) (by k_asm) (by assumption) (by first | decide | rfl) (by first | rfl | decide) (by first | size_fits | exact Nat.le_of_ble_eq_true rfl) ?_; intro g'; lcg_lit)))
  k_with "getMethod str" => ((with_reducible show wpAny _ _ (getMethod (Value.str _ _) (PySem.Str.ofString "translate") _) _ _ _); refine GM.of _ (typeIs_str _ _ _) F.slot_str_translate F.type_str_translate GM.noRef ?_)
  k_with "call builtin:str.translate" => ((k_here; k_dflt (refine' translate_K (by k_asm) (by k_asm) (by k_asm) (by k_is) (by decide +kernel) (by assumption) (by rfl) (by rfl) (by rename _ ∨ _ => hn9; rcases hn9 with e | e <;> (rw [e]; decide +kernel)) ?_; k_whole); intro t9 h9 tk9 F9 N9); (try (revert t9 h9 tk9 F9 N9; intros)))
  k_with "getAttr ref" => ((k_here; (with_reducible show wpAny _ _ (getAttr (Value.ref _) (PySem.Str.ofString "append") _) _ _ _); k_dflt (refine' getAttr_append_K (by k_asm) (by k_asm) (by k_mem) ?_; k_whole); intro u' h' tk' F' N' l1; (try k_lt l1); (try k_sweep)); (try (revert u' h' tk' F' N' l1; intros)))
  k_with "callWith ref" => (k_here; (with_reducible show wpAny _ _ (callWith _ (Value.ref _) _ (backTo _ (starEach (_ :: _) _)) []) _ _ _); k_dflt (refine' callWith_bnd_K (by k_asm) (by k_mem) ?_; k_whole))
  k_with "And" => ((with_reducible show BndAt _ _ _ _ ∧ _); k_dflt (refine ⟨bndAt_of (by k_asm) (by k_mem), ?_⟩); (try dsimp only [List.nil_append, List.cons_append]))
  k_with "call ref" => ((k_here; k_dflt (refine' call_bnd_append_K (by k_asm) (by k_asm) (by k_mem) (by k_updF) (by first | assumption | size_fits | exact Nat.le_of_ble_eq_true rfl) ?_; k_whole); intro h' F' N'; (try dsimp only at N'); (try k_sweep)); (try (revert h' F' N'; intros)))
  k_with "exec While Compare cons nil" => (k_here; (with_reducible show wpAny _ _ (exec (Stmt.While _ _ _ _) _) _ _ _); refine Stop.go ?_)
  k_with "call builtin:len" => ((k_here; (with_reducible show wpAny _ _ (call (Value.builtin "len") [Value.str (Str.mk _) _]) _ _ _); (first | refine len_known 3 rfl rfl ?_ | refine len_known 2 rfl rfl ?_ | refine len_known 1 rfl rfl ?_ | refine len_known 0 rfl rfl ?_); intro t9 k9); (try (revert t9 k9; intros)))
  k_with "subscriptTail Name Name str int" => ((k_here; (with_reducible show wpAny _ _ (subscriptTail _ _ (Value.str _ _) (Value.int _ _)) _ _ _); k_dflt (refine' item_at (by assumption) (by omega) ?_; k_whole); intro t9 k9); (try (revert t9 k9; intros)))
  k_with "subscriptTail" => (k_here; (with_reducible show wpAny _ _ (subscriptTail _ _ (Value.ref _) (Value.int (-1) _)) _ _ _); k_dflt (refine' item_last (by k_asm) (by k_mem) (by omega) ?_; k_whole))
  k_with "truthy ref" => ((k_here; (with_reducible show wpAny _ _ (truthy (Value.ref _)) _ _ _); k_dflt (first | (refine' truthy_known true (by k_asm) (by k_mem) (by (first | assumption | exact Nat.le_of_ble_eq_true rfl | (simp only [Array.size_push]; omega))) (by (first | rfl | (simp; done))) ?_; k_whole) | (refine' truthy_known false (by k_asm) (by k_mem) (by (first | assumption | exact Nat.le_of_ble_eq_true rfl)) (by rfl) ?_; k_whole)); intro k9); (try (revert k9; intros)))
  k_with "ite" => (k_closed; k_dflt (first | refine ite_pos (by decide +kernel) ?_ | refine ite_neg (by decide +kernel) ?_))
  k_with "exec For Name Call cons nil" => (k_here; (with_reducible show wpAny _ _ (exec (Stmt.For _ _ _ _ _) _) _ _ _); refine Stop.go ?_)
  k_with "pyIter ref" => (k_here; (with_reducible show wpAny _ _ (pyIter _) (fun _ _ => LoopAtV _ _ _ _ _ _ _ _ _ _ _) _ _); refine Stop.go ?_)
  k_with "call builtin:len" => ((k_here; (with_reducible show wpAny _ _ (call (Value.builtin "len") [Value.ref _]) _ _ _); k_dflt (refine' len_list_is (by first | assumption | exact Fr.lst (by assumption) (by assumption)) (by assumption) (by omega) ?_; k_whole); intro t9 k9); (try (revert t9 k9; intros)))
  k_with "compareOp In int ref" => (k_here; k_dflt (refine' in_list_ints (by is_list) (by assumption) ?_; k_whole))
  k_with "subscriptTail Name BinOp ref int" => (k_here; k_dflt (refine' item_pred (by is_list) (by assumption) (by omega) ?_; k_whole))
  k_with "binaryOp Add ref ref" => ((k_here; k_dflt (refine' add_ints_K (by k_asm) (by k_asm) (by k_mem) (by k_mem) (by assumption) (by omega) ?_; k_whole); intro D' h' ws' F' N' hI'); (try (revert D' h' ws' F' N' hI'; intros)))
  k_with "exec Assign cons ListComp" => (k_here; lct_look; k_dflt (refine LCt.Assign_ListComp_T (F₀ := by k_asm) (by rfl) (by with_unfolding_all rfl) (by with_unfolding_all rfl) (by decide) (by rfl) (by decide) (by rfl) (by rfl) (by rfl) ?_); k_dflt lct_toSrc)
  k_with "subscriptTail Name Name ref int" => (k_here; k_dflt (refine' item_nat_list (by is_list) (by assumption) (by omega) ?_; k_whole))
  k_with "compareOp In none ref" => (k_here; k_dflt (refine' in_disp (by is_list) (by assumption) ?_; k_whole))
  k_with "compareOp In str ref" => (k_here; k_dflt (refine' in_disp (by is_list) (by assumption) ?_; k_whole))
  k_with "mine use80" => (refine wpAny_call ?_; (refine' use0 (d := 380) (u := 800) ?B ?F ?X ?T ?hA ?hf ?hk ?hh ?hd ?hu ?_; (case B => k_asm); (case F => k_asm); (case X => k_asm); (case T => k_asm); (case hA => exact rfl); (case hf => exact rfl); (case hk => exact rfl); (case hh => exact rfl); (case hd => exact Nat.le_of_ble_eq_true rfl); (case hu => exact Nat.le_of_ble_eq_true rfl)))
  k_with "call builtin:iter" => ((k_here; (with_reducible show wpAny _ _ (call (Value.builtin "iter") [Value.str _ _]) _ _ _); k_dflt (refine' iter_str_K (by k_asm) (by k_asm) (by assumption) ?_; k_whole); intro I9 h9 F9 N9 l9 f9; (try k_lt l9)); (try (revert I9 h9 F9 N9 l9 f9; intros)))
  k_with "compareOp Is ref ref" => (k_here; (with_reducible show wpAny _ _ (compareOp CmpOp.Is (Value.ref _) (Value.ref _)) _ _ _); k_dflt (refine' is_list_other (by is_list) (by kto_obj) (by assumption) ?_; k_whole))
  k_with "mine use70" => (refine wpAny_call ?_; (refine' use0 (d := 370) (u := 700) ?B ?F ?X ?T ?hA ?hf ?hk ?hh ?hd ?hu ?_; (case B => k_asm); (case F => k_asm); (case X => k_asm); (case T => k_asm); (case hA => exact rfl); (case hf => exact rfl); (case hk => exact rfl); (case hh => exact rfl); (case hd => exact Nat.le_of_ble_eq_true rfl); (case hu => exact Nat.le_of_ble_eq_true rfl)))
  k_with "mine use60" => (refine wpAny_call ?_; (refine' use0 (d := 360) (u := 600) ?B ?F ?X ?T ?hA ?hf ?hk ?hh ?hd ?hu ?_; (case B => k_asm); (case F => k_asm); (case X => k_asm); (case T => k_asm); (case hA => exact rfl); (case hf => exact rfl); (case hk => exact rfl); (case hh => exact rfl); (case hd => exact Nat.le_of_ble_eq_true rfl); (case hu => exact Nat.le_of_ble_eq_true rfl)))
  k_with "mine use50" => (refine wpAny_call ?_; (refine' use0 (d := 350) (u := 500) ?B ?F ?X ?T ?hA ?hf ?hk ?hh ?hd ?hu ?_; (case B => k_asm); (case F => k_asm); (case X => k_asm); (case T => k_asm); (case hA => exact rfl); (case hf => exact rfl); (case hk => exact rfl); (case hh => exact rfl); (case hd => exact Nat.le_of_ble_eq_true rfl); (case hu => exact Nat.le_of_ble_eq_true rfl)))
  k_with "eval Name" => (k_here; kc_free; k_dflt (refine' nameX_old (by k_asm) (by rfl) (by assumption) ?_ (by rfl) (by rfl); k_whole))
  k_with "call builtin:iter" => ((k_here; (with_reducible show wpAny _ _ (call (Value.builtin "iter") [Value.ref _]) _ _ _); k_dflt (refine' iter_list_K (by k_asm) (by k_asm) (by is_list) ?_; k_whole); intro I9 h9 F9 N9 l9 f9; (try k_lt l9)); (try (revert I9 h9 F9 N9 l9 f9; intros)))
  k_with "exec For Name Name cons nil" => (k_here; (with_reducible show wpAny _ _ (exec (Stmt.For _ _ _ _ _) _) _ _ _); refine Stop.go ?_)
  k_with "callWith ref" => (k_here; (with_reducible show wpAny _ _ (callWith _ (Value.ref _) _ (backTo _ (starEach (_ :: _) _)) []) _ _ _); k_dflt (refine' callWith_F (by exact fnAt_kept (by k_asm) (by assumption)) ?_; k_whole))
  k_with "And" => ((with_reducible show FnAt _ _ ∧ _); k_dflt (refine ⟨fnAt_kept (by k_asm) (by assumption), ?_⟩); (try dsimp only [List.nil_append, List.cons_append]))
  k_with "call ref" => (k_here; (with_reducible show wpAny _ _ (call (Value.ref _) [Value.int _ _, Value.ref _]) _ _ _); refine Stop.go ?_)
  k_with "compareOp Is int ref" => (k_here; (with_reducible show wpAny _ _ (compareOp CmpOp.Is (Value.int _ _) (Value.ref _)) _ _ _); refine wpAny_is_other (by rfl) (by intro x; cases x) ?_)
  k_with "call ref" => (k_here; (with_reducible show wpAny _ _ (call (Value.ref 90) [Value.ref 130]) _ _ _); refine Stop.go ?_)
  k_with "CompSrcT" => (k_here; refine Stop.go ?_)
  k_with "CompEnd" => (k_here; refine Stop.go ?_)
  k_with "compareOp Is ref ref" => (k_here; k_dflt (first | refine wpAny_is_ref_self ?_ | (refine wpAny_is_ref_other (by assumption) (by exact News.get (by k_asm) (by k_mem)) (by exact News.get (by k_asm) (by k_mem)) (by exact Value.noConfusion) ?_)))
  k_with "compareOp NotEq ref ref" => (k_here; k_dflt (refine' ne_empty (by is_list) (by is_list) (by exact Nat.le_of_ble_eq_true rfl) ?_; k_whole))
  k_with "eval ListComp" => (k_here; (with_reducible show wpAny _ _ (eval (PySem.Expr.ListComp _ [⟨PySem.Expr.Tuple _ _ _, _, _, _⟩] _ _) _) _ _ _); refine Stop.go ?_)
  k_with "call ref" => (k_here; (with_reducible show wpAny _ _ (call (Value.ref 38) _) _ _ _); refine Stop.go ?_)
  k_with "call ref" => (k_here; (with_reducible show wpAny _ _ (call (Value.ref 45) _) _ _ _); refine Stop.go ?_)
  k_with "exec For Tuple Name cons nil" => (k_here; (with_reducible show wpAny _ _ (exec (Stmt.For _ _ _ _ _) _) _ _ _); refine Stop.go ?_)
  k_with "pyIter ref" => (k_here; (with_reducible show wpAny _ _ (pyIter _) (fun _ _ => TurnsAt _ _ _ _ _ _ _ _ _ _ _) _ _); refine Stop.go ?_)
  k_with "CompSrc" => (k_here; refine Stop.go ?_)
  k_with "callWith ref" => (k_here; (with_reducible show wpAny _ _ (callWith _ (Value.ref _) _ (backTo _ (starEach (_ :: _) _)) []) _ _ _); k_dflt (refine' callWith_KS (by assumption) (by k_asm) ?_; k_whole))
  k_with "And" => ((with_reducible show ClsAt _ _ ∧ _); k_dflt (refine ⟨KSub.clsAt (by assumption) (by k_asm) (by (intro p hp; k_mem)), ?_⟩); (try dsimp only [List.nil_append, List.cons_append]))
  k_with "call ref" => ((k_here; (with_reducible show wpAny _ _ (call (Value.ref _) [Value.str _ _]) _ _ _); k_dflt (refine' key_KS (by assumption) (by k_asm) (by k_asm) (by k_asm) (by intro p hp; k_mem) ?_; k_whole); intro i9 d9 h9 tk9 F9 N9 ne9; (try k_sweep)); (try (revert i9 d9 h9 tk9 F9 N9 ne9; intros)))
  k_with "mine ne" => (first | exact Ne.symm (And.left (by with_reducible assumption)) | exact Ne.symm (And.left (And.right (by with_reducible assumption))) | exact Ne.symm (And.left (And.right (And.right (by with_reducible assumption)))) | exact Ne.symm (And.left (And.right (And.right (And.right (by with_reducible assumption))))) | exact Ne.symm (And.left (And.right (And.right (And.right (And.right (by with_reducible assumption)))))) | exact Ne.symm (And.left (And.right (And.right (And.right (And.right (And.right (by with_reducible assumption))))))) | exact Ne.symm (And.left (And.right (And.right (And.right (And.right (And.right (And.right (by with_reducible assumption)))))))) | exact Ne.symm (And.left (And.right (And.right (And.right (And.right (And.right (And.right (And.right (by with_reducible assumption))))))))) | exact Ne.symm (And.left (And.right (And.right (And.right (And.right (And.right (And.right (And.right (And.right (by with_reducible assumption)))))))))) | exact Ne.symm (And.left (And.right (And.right (And.right (And.right (And.right (And.right (And.right (And.right (And.right (by with_reducible assumption))))))))))) | exact Nat.ne_of_gt (And.left (by with_reducible assumption)) | exact Nat.ne_of_gt (And.left (And.right (by with_reducible assumption))) | exact Nat.ne_of_gt (And.left (And.right (And.right (by with_reducible assumption)))) | exact Nat.ne_of_gt (And.left (And.right (And.right (And.right (by with_reducible assumption))))) | exact Nat.ne_of_gt (And.left (And.right (And.right (And.right (And.right (by with_reducible assumption)))))) | exact Nat.ne_of_gt (And.left (And.right (And.right (And.right (And.right (And.right (by with_reducible assumption))))))) | exact Nat.ne_of_gt (And.left (And.right (And.right (And.right (And.right (And.right (And.right (by with_reducible assumption)))))))) | exact Nat.ne_of_gt (And.left (And.right (And.right (And.right (And.right (And.right (And.right (And.right (by with_reducible assumption))))))))) | exact Nat.ne_of_gt (And.left (And.right (And.right (And.right (And.right (And.right (And.right (And.right (And.right (by with_reducible assumption)))))))))) | exact Nat.ne_of_gt (And.left (And.right (And.right (And.right (And.right (And.right (And.right (And.right (And.right (And.right (by with_reducible assumption))))))))))))
  trivial
local macro_rules | `(tactic| k_all) => `(tactic| first | exact Apart.use (by assumption) | exact apart_lt (by assumption) | exact apart_lt (And.right (by assumption)) | exact apart_lt (And.right (And.right (by assumption))) | exact apart_lt (And.right (And.right (And.right (by assumption)))) | exact apart_lt (And.right (And.right (And.right (And.right (by assumption))))) | exact apart_lt (And.right (And.right (And.right (And.right (And.right (by assumption)))))))
local macro_rules | `(tactic| k_mem) => `(tactic| first | with_reducible assumption | (refine memOf ?_; with_reducible assumption))
inductive OffSt (g : Heap) (s : Shared) (L' pl9 hl9 lp : Addr) (ys : List Value) (insts : List Addr) (okc : Obj) (kr' : List (Addr × Obj)) (j : Nat) : Shared → Prop
  | mk (h : Heap) (tk : Nat) (u : Option Value) (o1 : Obj) (nh no : Nat) (ol : Addr) (os : List Value) (v1 : Option Value) (a1 : Fr g L' h (fun y => if y = Str.ofString "order" then some (.ref ol) else if y = Str.ofString "name" then u else if y = Str.ofString "pairs" then some (.ref pl9) else if y = Str.ofString "heap" then some (.ref hl9) else if y = Str.ofString "names" then some (.ref lp) else none))
    (a2 : News g L' h ((pl9, LCg.lst ys) :: (ol, lobj os.toArray no) :: (hl9, lobj (plist (fun k => insts.getD k 0) (7 - j)) nh) :: (L' + 1 + 1, o1) :: (L' + 1, okc) :: kr')) (a3 : o1.data = .cell v1) (a4 : @Ne Nat ol hl9) (a5 : @Ne Nat (L' + 1 + 1) ol) (a6 : OrdAre os j) : OffSt g s L' pl9 hl9 lp ys insts okc kr' j { heap := h, gens := s.gens, drawn := s.drawn, toks := tk, os := s.os }
theorem off_spec : ∀ (w : World) (mean : ExcName → Option Value) (mg mb : Str → Option Value) (lp : Addr) (t0 t1 t2 t3 t4 t5 t6 : Tok)
    (fr : List Env) (base g : Heap) (s : Shared) (R : Result → Shared → Prop)
    (hg : g = hideAll s.heap [85]) (ht : s.heap.get? 85 = some (tabObj #[])) (hb0 : g.get? 0 = some (boot_o_0 w.params)) (hb4 : g.get? 4 = some (boot_o_4 w.params))
    (hl : g.IsList lp #[.str (nm7 0) t0, .str (nm7 1) t1, .str (nm7 2) t2, .str (nm7 3) t3, .str (nm7 4) t4, .str (nm7 5) t5, .str (nm7 6) t6])
    (B : Below (AA 320 200 fr) base fr g) (X : (Mine.heap39 w.params).In g) (T : Top topProg looseG mean mg mb g)
    (hret : ∀ (ol : Addr) (os : List Value) (no : Nat) (h' : Heap) (tk' : Nat), (∀ b o, g.get? b = some o → h'.get? b = some o) → g.get? ol = none → h'.get? ol = some (lobj os.toArray no) → OrdAre os 7 → (∃ vs, h'.get? 85 = some (tabObj vs)) → R (.ok (.ret (.ref ol))) { s with heap := h', toks := tk' }),
    codeAny (model PySem.Challenge.rw_in0045_01.row.prog w) (AA 320 200 fr) (.call (.ref 135) ⟨[.ref lp], []⟩) R s := by
  k_fill
  intro w mean mg mb lp t0 t1 t2 t3 t4 t5 t6 fr base g s R hg ht hb0 hb4 hl B X T hret
  refine' enterC (tb := [(85, tabObj #[])]) (binds := [(Str.ofString "names", .ref lp)]) g hg ?kt ?k3 ?k5 ?k6 ?k7 ?k8 ?k9 ?kB ?kD ?_ ?c2 ?c3 ?c4
  (case kt => intro q hq; rw [List.mem_singleton.mp hq]; exact ht)
  walk_at "mine sidesC"
  intro L' h' tk' cells' F' N' Y' l0
  k_cells Y'
  rename_i oo1 oo2 dd1 dd2
  replace dd1 : oo1.data = .cell none := dd1
  replace dd2 : oo2.data = .cell none := dd2
  replace F' : Fr g L' h' (fun y => if y = Str.ofString "names" then some (.ref lp) else none) := F'
  (try simp only [List.cons_append, List.nil_append, List.append_nil] at N')
  k_lt l0
  repeat' (first | walk1 | (dsimp only; walk1))
  refine Stop.out ?_
  refine wpAny_call ?_
  refine' useT (tb := [(85, tabObj #[])]) (d := 340) (u := 400) B F' (News.sub N' (by intro p hp; rw [List.mem_singleton.mp hp]; exact .tail _ (.tail _ (.head _)))) X T ?hA ?hf ?hk ?hh ?hd ?hu ?_
  (case hA => exact rfl)
  (case hf => exact rfl)
  (case hk => exact rfl)
  (case hh => exact rfl)
  (case hd => exact Nat.le_of_ble_eq_true rfl)
  (case hu => exact Nat.le_of_ble_eq_true rfl)
  intro g3 hg3 st3 B3 X3 T3
  refine ctk_spec w mean mg mb _ base g3 _ _ hg3 (N'.get (a := 85) (by k_mem)) (st3 _ _ hb0) (st3 _ _ hb4) B3 X3 T3 ?_
  intro aK h4 tk4 k4 hK
  obtain ⟨x, cell, o', o85, hcd, ⟨vs85, rfl⟩, hk1, hk2⟩ := hK
  have hn := fun p hp => away2 N' (ne2 l0) ((hg3 ▸ hk2) p hp)
  obtain ⟨F4, N4, N5⟩ := after85 F' (ex := (cell, o') :: (85, tabObj vs85) :: x.list w.params aK cell) (rest := [_, _]) (News.sub N' (fun p hp => List.mem_append_left [_] hp)) (News.sub N' (by intro p hp; rw [List.mem_singleton.mp hp]; exact .tail _ (.tail _ (.head _)))) (ne2 l0) (hg3 ▸ k4)
    (fun p hp => hk1 p hp) (fun p hp => (hg3 ▸ hk2) p hp)
  have a1 : Apart ((cell, o') :: (85, tabObj vs85) :: x.list w.params aK cell) (L' + 1) := fun p hp => (hn p hp).2
  have a2 : Apart ((cell, o') :: (85, tabObj vs85) :: x.list w.params aK cell) (L' + 1 + 1) := fun p hp => (hn p hp).1
  have KS : KSub w aK cell x ((cell, o') :: (85, tabObj vs85) :: x.list w.params aK cell) := ⟨⟨⟨o', hcd, .head _⟩, vs85, .tail _ (.head _)⟩, fun p hp => .tail _ (.tail _ hp)⟩
  generalize (cell, o') :: (85, tabObj vs85) :: x.list w.params aK cell = kr at N4 a1 a2 KS
  have N6 := news_app N5 N4
  clear F' N' B3 X3 T3 st3 hk2 hk1 k4 hg3 g3 N4 N5 hn
  simp only [List.cons_append, List.nil_append] at N6
  repeat' (first | walk1 | (dsimp only; walk1))
  refine Stop.out ?_
  rename_i hl9 _ ll1 ol9 _ ll2 D4 _ ll3 _ _ okc dk _ _ F7 N7
  have N8 := News.sub (n2 := (ol9, W.listOf #[] 0) :: (hl9, W.listOf #[] 0) :: (L' + 1 + 1, oo1) :: (L' + 1, okc) :: kr) N7 (fun p hp => .tail _ hp)
  clear N7
  have a3 : Apart kr hl9 := apart_lt ll1.2.2
  refine' LCg.CompSrc.base rfl ?F0 ?N0 ?l0 ?z0 ?_
  (case F0 => assumption)
  (case N0 => exact N8)
  (case l0 => exact hl)
  (case z0 => exact Nat.le_of_ble_eq_true rfl)
  intro gg
  refine rest_ind 7 (fun i ys nw => ∃ kr' insts, nw = (ol9, W.listOf #[] 0) :: (hl9, W.listOf #[] 0) :: (L' + 1 + 1, oo1) :: (L' + 1, okc) :: kr' ∧ insts.length = i ∧ Pairs aK kr' ys insts ∧ KSub w aK cell x kr' ∧ Apart kr' (L' + 1 + 1) ∧ Apart kr' hl9) ?turn ?fin 7 0 [] _ rfl ⟨kr, [], rfl, rfl, Pairs.nil, KS, a2, a3⟩
  (case turn =>
    rintro i ys nw v I oI C oC D m₂ h tk E' hi ⟨kr', insts, rfl, hin, hP, KS', aa2, aa3⟩ hPv hC hx F1 N1 off ne
    obtain ⟨t, rfl⟩ := nm7_item hPv
    repeat' (first | walk1 | (dsimp only; walk1))
    refine Stop.out ?_
    rename_i i9 d9 _ _ ne9 l9 _ F10 N10 ll9
    have n0 : ∀ p ∈ kr', p ∈ (l9, W.listOf #[Value.ref i9, Value.str (nm7 i) t] 0) :: (i9, instO aK d9 (nm7 i) t) :: kr' := fun p hp => .tail _ (.tail _ hp)
    have ap : Apart kr' i9 := fun p hp => ne9 p (by k_mem)
    subst hin
    refine' LCg.CompEnd.intro ?F1 ?N1 ((ol9, W.listOf #[] 0) :: (hl9, W.listOf #[] 0) :: (L' + 1 + 1, oo1) :: (L' + 1, okc) :: (l9, W.listOf #[Value.ref i9, Value.str (nm7 insts.length) t] 0) :: (i9, instO aK d9 (nm7 insts.length) t) :: kr') ?sub1 ?off1 ?S1 ⟨_, insts ++ [i9], rfl, ?len1, hP.snoc n0 (.head _) (.tail _ (.head _)) ap, KS'.more n0, ?a1, ?a2⟩
    (case F1 => assumption)
    (case N1 => assumption)
    (case len1 => rw [List.length_append]; rfl)
    (case S1 => exact Or.inl hl)
    (case a1 => exact Apart.cons (Apart.cons aa2 (ne9 (L' + 1 + 1, oo1) (by k_mem)).symm) (by k_ne))
    (case a2 => exact Apart.cons (Apart.cons aa3 (ne9 (hl9, W.listOf #[] 0) (by k_mem)).symm) (by k_ne))
    (case sub1 => (repeat' refine List.forall_mem_cons.mpr ⟨by k_mem, ?_⟩); exact fun p hp => by k_mem)
    (case off1 =>
      have om := off.mem
      refine LCg.Off3.of fun p hp => ?_
      simp only [List.mem_cons] at hp
      rcases hp with rfl | rfl | rfl | rfl | rfl | rfl | hp
      · exact om _ (by k_mem)
      · exact om _ (by k_mem)
      · exact om _ (by k_mem)
      · exact om _ (by k_mem)
      · exact ⟨by k_ne, by k_ne, by k_ne⟩
      · exact ⟨(ne9 (I, oI) (by k_mem)).symm, (ne9 (C, oC) (by k_mem)).symm, (ne9 (D, lst ys) (by k_mem)).symm⟩
      · exact om _ (by k_mem)))
  (case fin =>
    rintro ys nw ⟨kr', insts, rfl, hin, hP, KS', aa2, aa3⟩
    repeat' (first | walk1 | (dsimp only; walk1))
    refine Stop.out ?_
    rename_i pl9 _ _ F11 N11 ll11
    refine For_turns F11 ?_
    repeat' (first | walk1 | (dsimp only; walk1))
    refine Stop.out ?_
    have hf : ∀ k, k < 7 → insts[k]? = some (insts.getD k 0) := fun k hk => by
      rw [List.getD_eq_getElem?_getD, List.getElem?_eq_getElem (by omega)]; rfl
    refine turns_list (fun k m nw => ∃ (u : Option Value) (o1' : Obj) (nh : Nat), m = (fun y => if y = Str.ofString "name" then u else if y = Str.ofString "pairs" then some (.ref pl9) else if y = Str.ofString "order" then some (.ref ol9) else if y = Str.ofString "heap" then some (.ref hl9) else if y = Str.ofString "names" then some (.ref lp) else none) ∧
      nw = (pl9, LCg.lst ys) :: (ol9, W.listOf #[] 0) :: (hl9, lobj (plist (fun k => insts.getD k 0) k) nh) :: (L' + 1 + 1, o1') :: (L' + 1, okc) :: kr' ∧ ∃ v, o1'.data = .cell v) rfl (by assumption) (by assumption) (.head _) rfl rfl ⟨none, oo1, 0, ?m0, rfl, none, dd1⟩ (by rintro i m nw ⟨u, o1', nh, rfl, rfl, _⟩; exact .head _) ?turn ?done
    (case m0 =>
      funext y
      by_cases h : y = Str.ofString "name"
      · subst h; rfl
      · rw [if_neg h])
    (case turn =>
      rintro i v I oI m₁ nw h tk hi hv ⟨u, o1', nh, rfl, rfl, vc, hc1⟩ ho F1 N1
      replace F1 : Fr g L' h _ := F1
      replace N1 : News g L' h _ := N1
      have hi7 : i < 7 := by rw [List.size_toArray, hP.len, hin] at hi; exact hi
      obtain ⟨l, d, t, t', n, e1, e2, e3⟩ := hP.at' i _ (hf i hi7)
      have hv' : ys[i]? = some v := by simpa using hv
      have hI1 : @Ne Nat (L' + 1 + 1) I := ho (L' + 1 + 1, o1') (by k_mem)
      have hI2 : @Ne Nat hl9 I := ho (hl9, lobj (plist (fun k => insts.getD k 0) i) nh) (by k_mem)
      rw [e1] at hv'
      obtain rfl := Option.some.inj hv'
      repeat' (first | walk1 | (dsimp only; walk1))
      refine Stop.out ?_
      rename_i oc2 dc2 _ F12 N12
      rw [mset_mset] at F12
      refine wpAny_call ?_
      refine' useT (tb := [(hl9, lobj (plist (fun k => insts.getD k 0) i) nh)]) (d := 360) (u := 600) B F12 (News.sub N12 (by intro p hp; rw [List.mem_singleton.mp hp]; k_mem)) X T ?hA ?hf ?hk ?hh ?hd ?hu ?_
      (case hA => exact rfl)
      (case hf => exact rfl)
      (case hk => exact rfl)
      (case hh => exact rfl)
      (case hd => exact Nat.le_of_ble_eq_true rfl)
      (case hu => exact Nat.le_of_ble_eq_true rfl)
      intro g3 hg3 st3 B3 X3 T3
      have nhl : ∀ p ∈ [(I, oI), (pl9, LCg.lst ys), (ol9, W.listOf #[] 0)], p.1 ≠ hl9 := by
        intro p hp
        simp only [List.mem_cons, List.not_mem_nil, or_false] at hp
        rcases hp with rfl | rfl | rfl
        · exact hI2.symm
        · exact ll11.2.1.symm
        · k_ne
      have phl : ∀ p ∈ (L' + 1 + 1, oc2) :: (L' + 1, okc) :: kr', p.1 ≠ hl9 := Apart.cons (Apart.cons aa3 (by k_ne)) (by k_ne)
      refine pushG w mean mg mb hl9 aK cell (fun k => insts.getD k 0) x nh _ base g3 _ _ i hi7 hg3 (N12.get (by k_mem)) (keysF_of KS' hP hin fun p hp => ?_) B3 X3 T3 ?_
      · rw [hg3]
        exact hideAll_get _ (N12 p (by k_mem)).1 fun hm => aa3 p hp (List.mem_singleton.mp hm)
      · intro h13 tk13 nh' k13 e13
        obtain ⟨F13, N13⟩ := after_one (pre := [(I, oI), (pl9, LCg.lst ys), (ol9, W.listOf #[] 0)]) F12 N12 nhl phl (hg3 ▸ k13) e13
        clear F12 N12 B3 X3 T3 st3 k13 hg3 e13
        simp only [List.cons_append, List.nil_append] at N13
        repeat' (first | walk1 | (dsimp only; walk1))
        refine ⟨_, _, _, _, rfl, F13, N13, ?_, some (.str (nm7 i) t), oc2, nh', rfl, rfl, _, dc2⟩
        intro p hp
        simp only [List.mem_cons] at hp
        rcases hp with rfl | rfl | rfl | rfl | rfl | hp
        · exact ho (pl9, LCg.lst ys) (by k_mem)
        · exact ho (ol9, W.listOf #[] 0) (by k_mem)
        · exact hI2
        · exact hI1
        · exact ho (L' + 1, okc) (by k_mem)
        · exact ho p (by k_mem))
    (case done =>
      rintro m₁ nw h tk ⟨u, o1', nh, rfl, rfl, vc, hc1⟩ F20 N20
      replace F20 : Fr g L' h _ := F20
      replace N20 : News g L' h _ := N20
      have e7 : ys.toArray.size = 7 := by rw [List.size_toArray, hP.len, hin]
      rw [e7] at N20
      clear F11 N11
      have nol : @Ne Nat ol9 hl9 := by k_ne
      have npl : @Ne Nat pl9 hl9 := ll11.2.1.symm
      have npo : @Ne Nat (L' + 1 + 1) pl9 := ll11.2.2.1
      have noo : @Ne Nat (L' + 1 + 1) ol9 := by k_ne
      have nlo : @Ne Nat (L' + 1 + 1) hl9 := by k_ne
      have nlk : @Ne Nat (L' + 1) hl9 := by k_ne
      repeat' (first | walk1 | (dsimp only; walk1))
      refine Stop.out ?_
      refine while_ind 7 (fun j s' => Stop (OffSt g s L' pl9 hl9 lp ys insts okc kr' j s')) ?pass ?start ?turn ?last
      (case pass => passes_own)
      (case start =>
        refine ⟨h, tk, u, o1', nh, 0, ol9, [], vc, ?_, N20, hc1, nol, noo, OrdAre.nil⟩
        have e : (fun y => if y = Str.ofString "name" then u else if y = Str.ofString "pairs" then some (Value.ref pl9) else if y = Str.ofString "order" then some (Value.ref ol9) else if y = Str.ofString "heap" then some (Value.ref hl9) else if y = Str.ofString "names" then some (Value.ref lp) else none)
          = (fun y => if y = Str.ofString "order" then some (Value.ref ol9) else if y = Str.ofString "name" then u else if y = Str.ofString "pairs" then some (Value.ref pl9) else if y = Str.ofString "heap" then some (Value.ref hl9) else if y = Str.ofString "names" then some (Value.ref lp) else none) := by
          funext y
          by_cases h : y = Str.ofString "order"
          · subst h; rfl
          · simp only [if_neg h]
        rw [← e]
        exact F20)
      (case turn =>
        rintro j _ hj ⟨h, tk, u, o1, nh, no, ol, os, v1, F21, N21, hc1, nolh, nool, hO⟩
        have hsz : ((plist (fun k => insts.getD k 0) (7 - j)).size != 0) = true := by
          rw [plist_size _ _ (by omega)]
          have : 7 - j ≠ 0 := by omega
          simpa using this
        repeat' (first | walk1 | (dsimp only; walk1))
        refine Stop.out ?_
        rename_i tl9 _ F22 N22 l22
        refine wpAny_call ?_
        refine' useT (tb := [(hl9, lobj (plist (fun k => insts.getD k 0) (7 - j)) nh)]) (d := 360) (u := 600) B F22 (News.sub N22 (by intro p hp; rw [List.mem_singleton.mp hp]; k_mem)) X T ?hA ?hf ?hk ?hh ?hd ?hu ?_
        (case hA => exact rfl)
        (case hf => exact rfl)
        (case hk => exact rfl)
        (case hh => exact rfl)
        (case hd => exact Nat.le_of_ble_eq_true rfl)
        (case hu => exact Nat.le_of_ble_eq_true rfl)
        intro g3 hg3 st3 B3 X3 T3
        have hj1 : 7 - j = (6 - j) + 1 := by omega
        refine popG w mean mg mb hl9 aK cell (fun k => insts.getD k 0) x nh _ base g3 _ _ (6 - j) (by omega) hg3 (by rw [← hj1]; exact N22.get (by k_mem)) (keysF_of KS' hP hin fun p hp => ?_) B3 X3 T3 ?_
        · rw [hg3]
          exact hideAll_get _ (N22 p (by k_mem)).1 fun hm => aa3 p hp (List.mem_singleton.mp hm)
        intro h23 tk23 nh' k23 e23
        have npre : ∀ p ∈ [(pl9, LCg.lst ys), (ol, lobj os.toArray no)], p.1 ≠ hl9 := by
          intro p hp
          simp only [List.mem_cons, List.not_mem_nil, or_false] at hp
          rcases hp with rfl | rfl
          · exact npl
          · exact nolh
        obtain ⟨F23, N23⟩ := after_one (pre := [(pl9, LCg.lst ys), (ol, lobj os.toArray no)]) F22 (News.sub N22 fun p hp => .tail _ hp) npre (Apart.cons (Apart.cons aa3 nlk) nlo) (hg3 ▸ k23) e23
        clear F22 N22 B3 X3 T3 st3 k23 hg3 e23 l22 hsz
        simp only [List.cons_append, List.nil_append] at N23
        repeat' (first | walk1 | (dsimp only; walk1))
        refine Stop.out ?_
        rename_i _ oc3 F24 N24 dc3
        refine' comp_pairsL (h₀ := g) (L := L') (m := fun y => if y = Str.ofString "order" then some (Value.ref ol) else if y = Str.ofString "name" then u else if y = Str.ofString "pairs" then some (Value.ref pl9) else if y = Str.ofString "heap" then some (Value.ref hl9) else if y = Str.ofString "names" then some (Value.ref lp) else none) (ct := some _) ?hclos ?hcell ?hkind ?hnames ?hxa ?hxb ?hab ?_
        (case hclos => with_unfolding_all rfl)
        (case hcell => decide)
        (case hkind => rfl)
        (case hnames => decide)
        (case hxa => rfl)
        (case hxb => rfl)
        (case hab => decide)
        repeat' (first | walk1 | (dsimp only; walk1))
        obtain ⟨l6, d6, t6, t6', n6, e61, e62, e63⟩ := hP.at' (6 - j) _ (hf (6 - j) (by omega))
        refine ⟨pl9, ys.toArray, _, fun k zs nw => nw = (pl9, LCg.lst ys) :: (ol, lobj os.toArray no) :: (hl9, lobj (plist (fun k => insts.getD k 0) (6 - j)) nh') :: (L' + 1 + 1, oc3) :: (L' + 1, okc) :: kr' ∧ (if 6 - j < k then ∃ t, zs = [.str (nm7 (6 - j)) t] else zs = []),
          fun k x y => x = .ref (insts.getD k 0) ∧ ∃ t, y = .str (nm7 k) t, rfl, rfl, F24, N24, Or.inr ⟨_, by k_mem, rfl, _, rfl⟩, ?sz, ⟨rfl, rfl⟩, ?items, ?tn, ?fin2⟩
        (case sz => rw [List.size_toArray, hP.len, hin]; exact Nat.le_of_ble_eq_true rfl)
        (case items =>
          rintro i v zs nw hv ⟨rfl, -⟩
          have hi7 : i < 7 := by
            have := (Array.getElem?_eq_some_iff.mp hv).1
            rw [List.size_toArray, hP.len, hin] at this; exact this
          obtain ⟨l, d, t, t', n, e1, e2, e3⟩ := hP.at' i _ (hf i hi7)
          have hv' : ys[i]? = some v := by simpa using hv
          rw [e1] at hv'
          exact ⟨l, n, _, _, (Option.some.inj hv').symm, by k_mem, rfl, t, rfl⟩)
        (case tn =>
          rintro i zs nw I oI C oC D m₂ x' y' h25 tk25 E' hi ⟨rfl, hz⟩ ⟨rfl, t, rfl⟩ hC hxa hxb F25 N25 off ne
          have hi7 : i < 7 := by rw [List.size_toArray, hP.len, hin] at hi; exact hi
          show wpAny _ _ (isTrue _ _ (eval _ _)) _ _ _
          obtain ⟨l, d, t2, t', n, e1, e2, e3⟩ := hP.at' i _ (hf i hi7)
          by_cases hij : i = 6 - j
          · subst hij
            rw [if_neg (Nat.lt_irrefl _)] at hz
            subst hz
            repeat' (first | walk1 | (dsimp only; walk1))
            refine Stop.out ?_
            refine' LCg.CompEnd.intro F25 N25 _ ?sb1 off ?Sr1 ⟨rfl, ?Jx1⟩
            (case sb1 => (repeat' refine List.forall_mem_cons.mpr ⟨by k_mem, ?_⟩); exact fun p hp => by k_mem)
            (case Sr1 => exact Or.inr ⟨_, .head _, rfl, _, rfl⟩)
            (case Jx1 => rw [if_pos (Nat.lt_succ_self _)]; exact ⟨t, rfl⟩)
          · have hne : insts.getD i 0 ≠ insts.getD (6 - j) 0 := by
              intro e
              have h1 := hf i hi7
              have h2 := hf (6 - j) (by omega)
              rw [e] at h1
              exact hij ((List.getElem?_inj (by omega) hP.nodup).mp (h1.trans h2.symm))
            repeat' (first | walk1 | (dsimp only; walk1))
            refine Stop.out ?_
            refine' LCg.CompEnd.intro F25 N25 _ ?sb2 off ?Sr2 ⟨rfl, ?Jx2⟩
            (case sb2 => (repeat' refine List.forall_mem_cons.mpr ⟨by k_mem, ?_⟩); exact fun p hp => by k_mem)
            (case Sr2 => exact Or.inr ⟨_, .head _, rfl, _, rfl⟩)
            (case Jx2 =>
              by_cases hlt : 6 - j < i
              · rw [if_pos hlt] at hz
                rw [if_pos (by omega)]; exact hz
              · rw [if_neg hlt] at hz
                rw [if_neg (by omega)]; exact hz))
        (case fin2 =>
          rintro zs nw ⟨rfl, hz⟩
          have e7 : ys.toArray.size = 7 := by rw [List.size_toArray, hP.len, hin]
          rw [e7, if_pos (by omega)] at hz
          obtain ⟨t, rfl⟩ := hz
          intro D h26 tk26 F26 N26 off26
          clear F24 N24
          repeat' (first | walk1 | (dsimp only; walk1))
          have lt1 : @LT.lt Nat _ hl9 h26.objs.size := Heap.lt_size (N26.get (a := hl9) (by k_mem))
          have lt2 : @LT.lt Nat _ (L' + 1 + 1) h26.objs.size := Heap.lt_size (N26.get (a := L' + 1 + 1) (by k_mem))
          refine add_lists (vs := os) (ws := [.str (nm7 (6 - j)) t]) F26 N26 ⟨_, N26.get (a := ol) (by k_mem), rfl, _, rfl⟩ ⟨_, N26.get (a := D) (by k_mem), rfl, _, rfl⟩ ?_ (small_line (by rw [hO.1, List.length_singleton]; omega))
          intro h27 F27 N27
          dsimp only at F27 N27 ⊢
          generalize h26.objs.size = ol2 at *
          clear F26 N26
          repeat' (first | walk1 | (dsimp only; walk1))
          rename_i _ F28 N28
          rw [mset_mset] at F28
          refine ⟨_, _, u, oc3, nh', 0, ol2, _, _, F28, ?_, dc3, (Nat.ne_of_lt lt1).symm, Nat.ne_of_lt lt2, hO.snoc (t := t)⟩
          rw [show 7 - (j + 1) = 6 - j by omega]
          exact News.sub N28 ((by (repeat' refine List.forall_mem_cons.mpr ⟨by k_mem, ?_⟩); exact fun p hp => by k_mem))))
      (case last =>
        rintro _ ⟨h, tk, u, o1, nh, no, ol, os, v1, F29, N29, hc29, nolh, nool, hO⟩
        have hsz : ((plist (fun k => insts.getD k 0) (7 - 7)).size != 0) = false := rfl
        repeat' (first | walk1 | (dsimp only; walk1))
        rename_i F30 N30 _
        exact hret _ _ _ _ _ F30.keep (N30.fresh (a := ol) (by k_mem)) (N30.get (a := ol) (by k_mem)) hO (let ⟨vs, m⟩ := KS'.1.2; ⟨vs, N30.get (a := 85) (by k_mem)⟩))))
end
section
open PySem PySem.W PyProof.Rows PySem.Calls
local macro_rules | `(tactic| k_all) => `(tactic| first | exact Apart.use (by assumption) | exact apart_lt (by assumption) | exact apart_lt (And.right (by assumption)) | exact apart_lt (And.right (And.right (by assumption))) | exact apart_lt (And.right (And.right (And.right (by assumption)))) | exact apart_lt (And.right (And.right (And.right (And.right (by assumption))))) | exact apart_lt (And.right (And.right (And.right (And.right (And.right (by assumption)))))))
local macro_rules | `(tactic| k_mem) => `(tactic| first | with_reducible assumption | (refine memOf ?_; with_reducible assumption) | (refine memApL ?_; k_mem) | (refine memApR ?_; k_mem))
local macro_rules | `(tactic| k_all) => `(tactic| exact Away.use (by assumption) (by k_mem))
local macro_rules | `(tactic| k_ne) => `(tactic| (refine PySem.W.neN ?_; (try dsimp only); first | with_reducible assumption | walk_at "mine ne" | omega))
section
-- text N81
open PySem PySem.W PyProof.Rows PySem.Calls PyProof.Rows.LCg PyProof.Rows.LCt
set_option maxHeartbeats 8000000
theorem rows_N81 : True := by
  k_with_none
  k_with "mine sides0" => ((case k3 => k_asm); (case k5 => k_asm); (case k6 => k_is); (case k7 => k_is); (case k8 => exact Nat.le_of_ble_eq_true rfl); (case k9 => first | exact BindsTo.of_eq rfl | exact binds_K (by k_in) rfl (by k_is) rfl rfl rfl); (case c5 => decide); (case kB => exact locs rfl); (case c2 => exact rfl); (case c3 => exact rfl); (case c4 => exact rfl))
  k_with "mine sidesC" => ((case k3 => k_asm); (case k5 => k_asm); (case k6 => k_is); (case k7 => k_is); (case k8 => exact Nat.le_of_ble_eq_true rfl); (case k9 => first | exact BindsTo.of_eq rfl | exact binds_K (by k_in) rfl (by k_is) rfl rfl rfl); (case kB => exact rfl); (case kD => decide +kernel); (case c2 => exact rfl); (case c3 => exact rfl); (case c4 => exact rfl))
  k_with "mine enter0" => ((refine' enterS (by k_asm) (by k_asm) (by k_is) (by k_is) (by exact Nat.le_of_ble_eq_true rfl) (by first | exact BindsTo.of_eq rfl | exact binds_K (by k_in) rfl (by k_is) rfl rfl rfl) (by exact locs rfl) ?_ (by exact rfl) (by exact rfl) (by exact rfl) (by decide); k_whole; intro L' h' F' N'); (try (revert L' h' F' N'; intros)))
  k_with "mine enterC" => ((refine' enterSC (by k_asm) (by k_asm) (by k_is) (by k_is) (by exact Nat.le_of_ble_eq_true rfl) (by first | exact BindsTo.of_eq rfl | exact binds_K (by k_in) rfl (by k_is) rfl rfl rfl) (by exact rfl) (by decide +kernel) ?_ (by exact rfl) (by exact rfl) (by exact rfl); k_whole; intro L' h' tk' cells' F' N' Y'; k_cells Y'; (try simp only [List.cons_append, List.nil_append, List.append_nil] at N')); (try (revert L' h' tk' cells' F' N' Y'; intros)))
  k_with "eval ListComp" => (k_here; lcf_look; k_dflt (refine LCg.ListComp_U (F₀ := by k_asm) (by with_unfolding_all rfl) (by decide) (by rfl) (by decide) (by rfl) ?_); k_dflt lcg_toSrc)
  k_with "CompSrc" => (k_here; k_dflt (first | (refine LCg.CompSrc.ledger (by rfl) (by k_asm) (by k_asm) (by k_mem) (by first | size_fits | exact Nat.le_of_ble_eq_true rfl) ?_; intro g'; lcg_lit) | (refine LCg.CompSrc.base (by rfl) (by k_asm) (by k_asm) (by assumption) (by first | size_fits | exact Nat.le_of_ble_eq_true rfl) ?_; intro g'; lcg_lit) | (refine LCg.CompSrc.range (by rfl) (by k_asm) (by k_asm) (by assumption) (by first | decide | rfl) (by first | rfl | decide) (by first | size_fits | exact Nat.le_of_ble_eq_true rfl) ?_; intro g'; lcg_lit)))
  k_with "getMethod str" => ((with_reducible show wpAny _ _ (getMethod (Value.str _ _) (PySem.Str.ofString "translate") _) _ _ _); refine GM.of _ (typeIs_str _ _ _) F.slot_str_translate F.type_str_translate GM.noRef ?_)
  k_with "call builtin:str.translate" => ((k_here; k_dflt (refine' translate_K (by k_asm) (by k_asm) (by k_asm) (by k_is) (by decide +kernel) (by assumption) (by rfl) (by rfl) (by rename _ ∨ _ => hn9; rcases hn9 with e | e <;> (rw [e]; decide +kernel)) ?_; k_whole); intro t9 h9 tk9 F9 N9); (try (revert t9 h9 tk9 F9 N9; intros)))
  k_with "getAttr ref" => ((k_here; (with_reducible show wpAny _ _ (getAttr (Value.ref _) (PySem.Str.ofString "append") _) _ _ _); k_dflt (refine' getAttr_append_K (by k_asm) (by k_asm) (by k_mem) ?_; k_whole); intro u' h' tk' F' N' l1; (try k_lt l1); (try k_sweep)); (try (revert u' h' tk' F' N' l1; intros)))
  k_with "callWith ref" => (k_here; (with_reducible show wpAny _ _ (callWith _ (Value.ref _) _ (backTo _ (starEach (_ :: _) _)) []) _ _ _); k_dflt (refine' callWith_bnd_K (by k_asm) (by k_mem) ?_; k_whole))
  k_with "And" => ((with_reducible show BndAt _ _ _ _ ∧ _); k_dflt (refine ⟨bndAt_of (by k_asm) (by k_mem), ?_⟩); (try dsimp only [List.nil_append, List.cons_append]))
  k_with "call ref" => ((k_here; k_dflt (refine' call_bnd_append_K (by k_asm) (by k_asm) (by k_mem) (by k_updF) (by first | assumption | size_fits | exact Nat.le_of_ble_eq_true rfl) ?_; k_whole); intro h' F' N'; (try dsimp only at N'); (try k_sweep)); (try (revert h' F' N'; intros)))
  k_with "exec While Compare cons nil" => (k_here; (with_reducible show wpAny _ _ (exec (Stmt.While _ _ _ _) _) _ _ _); refine Stop.go ?_)
  k_with "call builtin:len" => ((k_here; (with_reducible show wpAny _ _ (call (Value.builtin "len") [Value.str (Str.mk _) _]) _ _ _); (first | refine len_known 3 rfl rfl ?_ | refine len_known 2 rfl rfl ?_ | refine len_known 1 rfl rfl ?_ | refine len_known 0 rfl rfl ?_); intro t9 k9); (try (revert t9 k9; intros)))
  k_with "subscriptTail Name Name str int" => ((k_here; (with_reducible show wpAny _ _ (subscriptTail _ _ (Value.str _ _) (Value.int _ _)) _ _ _); k_dflt (refine' item_at (by assumption) (by omega) ?_; k_whole); intro t9 k9); (try (revert t9 k9; intros)))
  k_with "subscriptTail" => (k_here; (with_reducible show wpAny _ _ (subscriptTail _ _ (Value.ref _) (Value.int (-1) _)) _ _ _); k_dflt (refine' item_last (by k_asm) (by k_mem) (by omega) ?_; k_whole))
  k_with "truthy ref" => ((k_here; (with_reducible show wpAny _ _ (truthy (Value.ref _)) _ _ _); k_dflt (first | (refine' truthy_known true (by k_asm) (by k_mem) (by (first | assumption | exact Nat.le_of_ble_eq_true rfl | (simp only [Array.size_push]; omega))) (by (first | rfl | (simp; done))) ?_; k_whole) | (refine' truthy_known false (by k_asm) (by k_mem) (by (first | assumption | exact Nat.le_of_ble_eq_true rfl)) (by rfl) ?_; k_whole)); intro k9); (try (revert k9; intros)))
  k_with "ite" => (k_closed; k_dflt (first | refine ite_pos (by decide +kernel) ?_ | refine ite_neg (by decide +kernel) ?_))
  k_with "exec For Name Call cons nil" => (k_here; (with_reducible show wpAny _ _ (exec (Stmt.For _ _ _ _ _) _) _ _ _); refine Stop.go ?_)
  k_with "pyIter ref" => (k_here; (with_reducible show wpAny _ _ (pyIter _) (fun _ _ => LoopAtV _ _ _ _ _ _ _ _ _ _ _) _ _); refine Stop.go ?_)
  k_with "call builtin:len" => ((k_here; (with_reducible show wpAny _ _ (call (Value.builtin "len") [Value.ref _]) _ _ _); k_dflt (refine' len_list_is (by first | assumption | exact Fr.lst (by assumption) (by assumption)) (by assumption) (by omega) ?_; k_whole); intro t9 k9); (try (revert t9 k9; intros)))
  k_with "compareOp In int ref" => (k_here; k_dflt (refine' in_list_ints (by is_list) (by assumption) ?_; k_whole))
  k_with "subscriptTail Name BinOp ref int" => (k_here; k_dflt (refine' item_pred (by is_list) (by assumption) (by omega) ?_; k_whole))
  k_with "binaryOp Add ref ref" => ((k_here; k_dflt (refine' add_ints_K (by k_asm) (by k_asm) (by k_mem) (by k_mem) (by assumption) (by omega) ?_; k_whole); intro D' h' ws' F' N' hI'); (try (revert D' h' ws' F' N' hI'; intros)))
  k_with "exec Assign cons ListComp" => (k_here; lct_look; k_dflt (refine LCt.Assign_ListComp_T (F₀ := by k_asm) (by rfl) (by with_unfolding_all rfl) (by with_unfolding_all rfl) (by decide) (by rfl) (by decide) (by rfl) (by rfl) (by rfl) ?_); k_dflt lct_toSrc)
  k_with "subscriptTail Name Name ref int" => (k_here; k_dflt (refine' item_nat_list (by is_list) (by assumption) (by omega) ?_; k_whole))
  k_with "compareOp In none ref" => (k_here; k_dflt (refine' in_disp (by is_list) (by assumption) ?_; k_whole))
  k_with "compareOp In str ref" => (k_here; k_dflt (refine' in_disp (by is_list) (by assumption) ?_; k_whole))
  k_with "mine use80" => (refine wpAny_call ?_; (refine' use0 (d := 380) (u := 800) ?B ?F ?X ?T ?hA ?hf ?hk ?hh ?hd ?hu ?_; (case B => k_asm); (case F => k_asm); (case X => k_asm); (case T => k_asm); (case hA => exact rfl); (case hf => exact rfl); (case hk => exact rfl); (case hh => exact rfl); (case hd => exact Nat.le_of_ble_eq_true rfl); (case hu => exact Nat.le_of_ble_eq_true rfl)))
  k_with "call builtin:iter" => ((k_here; (with_reducible show wpAny _ _ (call (Value.builtin "iter") [Value.str _ _]) _ _ _); k_dflt (refine' iter_str_K (by k_asm) (by k_asm) (by assumption) ?_; k_whole); intro I9 h9 F9 N9 l9 f9; (try k_lt l9)); (try (revert I9 h9 F9 N9 l9 f9; intros)))
  k_with "compareOp Is ref ref" => (k_here; (with_reducible show wpAny _ _ (compareOp CmpOp.Is (Value.ref _) (Value.ref _)) _ _ _); k_dflt (refine' is_list_other (by is_list) (by kto_obj) (by assumption) ?_; k_whole))
  k_with "mine use70" => (refine wpAny_call ?_; (refine' use0 (d := 370) (u := 700) ?B ?F ?X ?T ?hA ?hf ?hk ?hh ?hd ?hu ?_; (case B => k_asm); (case F => k_asm); (case X => k_asm); (case T => k_asm); (case hA => exact rfl); (case hf => exact rfl); (case hk => exact rfl); (case hh => exact rfl); (case hd => exact Nat.le_of_ble_eq_true rfl); (case hu => exact Nat.le_of_ble_eq_true rfl)))
  k_with "mine use60" => (refine wpAny_call ?_; (refine' use0 (d := 360) (u := 600) ?B ?F ?X ?T ?hA ?hf ?hk ?hh ?hd ?hu ?_; (case B => k_asm); (case F => k_asm); (case X => k_asm); (case T => k_asm); (case hA => exact rfl); (case hf => exact rfl); (case hk => exact rfl); (case hh => exact rfl); (case hd => exact Nat.le_of_ble_eq_true rfl); (case hu => exact Nat.le_of_ble_eq_true rfl)))
  k_with "mine use50" => (refine wpAny_call ?_; (refine' use0 (d := 350) (u := 500) ?B ?F ?X ?T ?hA ?hf ?hk ?hh ?hd ?hu ?_; (case B => k_asm); (case F => k_asm); (case X => k_asm); (case T => k_asm); (case hA => exact rfl); (case hf => exact rfl); (case hk => exact rfl); (case hh => exact rfl); (case hd => exact Nat.le_of_ble_eq_true rfl); (case hu => exact Nat.le_of_ble_eq_true rfl)))
  k_with "eval Name" => (k_here; kc_free; k_dflt (refine' nameX_old (by k_asm) (by rfl) (by assumption) ?_ (by rfl) (by rfl); k_whole))
  k_with "call builtin:iter" => ((k_here; (with_reducible show wpAny _ _ (call (Value.builtin "iter") [Value.ref _]) _ _ _); k_dflt (refine' iter_list_K (by k_asm) (by k_asm) (by is_list) ?_; k_whole); intro I9 h9 F9 N9 l9 f9; (try k_lt l9)); (try (revert I9 h9 F9 N9 l9 f9; intros)))
  k_with "exec For Name Name cons nil" => (k_here; (with_reducible show wpAny _ _ (exec (Stmt.For _ _ _ _ _) _) _ _ _); refine Stop.go ?_)
  k_with "callWith ref" => (k_here; (with_reducible show wpAny _ _ (callWith _ (Value.ref _) _ (backTo _ (starEach (_ :: _) _)) []) _ _ _); k_dflt (refine' callWith_F (by exact fnAt_kept (by k_asm) (by assumption)) ?_; k_whole))
  k_with "And" => ((with_reducible show FnAt _ _ ∧ _); k_dflt (refine ⟨fnAt_kept (by k_asm) (by assumption), ?_⟩); (try dsimp only [List.nil_append, List.cons_append]))
  k_with "call ref" => (k_here; (with_reducible show wpAny _ _ (call (Value.ref _) [Value.int _ _, Value.ref _]) _ _ _); refine Stop.go ?_)
  k_with "compareOp Is int ref" => (k_here; (with_reducible show wpAny _ _ (compareOp CmpOp.Is (Value.int _ _) (Value.ref _)) _ _ _); refine wpAny_is_other (by rfl) (by intro x; cases x) ?_)
  k_with "call ref" => (k_here; (with_reducible show wpAny _ _ (call (Value.ref 90) [Value.ref 130]) _ _ _); refine Stop.go ?_)
  k_with "CompSrcT" => (k_here; refine Stop.go ?_)
  k_with "CompEnd" => (k_here; refine Stop.go ?_)
  k_with "eval ListComp" => (k_here; (with_reducible show wpAny _ _ (eval (PySem.Expr.ListComp _ [⟨PySem.Expr.Tuple _ _ _, _, _, _⟩] _ _) _) _ _ _); refine Stop.go ?_)
  k_with "call ref" => (k_here; (with_reducible show wpAny _ _ (call (Value.ref _) _) _ _ _); refine Stop.go ?_)
  k_with "CompSrc" => (k_here; refine Stop.go ?_)
  k_with "mine use90" => (refine wpAny_call ?_; (refine' use0 (d := 390) (u := 900) ?B ?F ?X ?T ?hA ?hf ?hk ?hh ?hd ?hu ?_; (case B => k_asm); (case F => k_asm); (case X => k_asm); (case T => k_asm); (case hA => exact rfl); (case hf => exact rfl); (case hk => exact rfl); (case hh => exact rfl); (case hd => exact Nat.le_of_ble_eq_true rfl); (case hu => exact Nat.le_of_ble_eq_true rfl)))
  k_with "call ref" => ((k_here; (with_reducible show wpAny _ _ (call (Value.ref 104) [Value.int _ _]) _ _ _); k_dflt (walk_at "mine use90"; intro B9 X9 T9; (refine' pattern_spec _ _ _ _ _ _ _ callerA _ _ _ B9 X9 T9 ?_); clear B9 X9 T9; intro t9 h9 tk9 x9; (have F9 := Fr.keeps (by k_asm) x9); (have N9 := News.keeps (by k_asm) x9); clear x9; (try dsimp only); (try k_sweep))); (try (revert t9 h9 tk9 F9 N9; intros)))
  k_with "eval Lambda" => ((k_here; kn_here; k_dflt (refine' kla_eval (by exact rfl) ?_); (k_dflt (refine' kla_nest2r (by k_asm) (by k_asm) (by k_asm) (by exact rfl) (by kn_code) (by k_updF) (by kn_triples) (by kn_among) (by exact rfl) ?_; k_whole); intro f' c' P' oc' vs' t' ct' h' tk' F' N' d1' d2' l1 lP l2 l3 ob1 ob2; (try dsimp only at N'); (try k_lt l1); (try k_lt lP); (try k_lt2 l2); (try k_lt2 l3))); (try (revert f' c' P' oc' vs' t' ct' h' tk' F' N' d1' d2' l1 lP l2 l3 ob1 ob2; intros)))
  k_with "exec Assign cons ListComp" => (k_here; (with_reducible show wpAny _ _ (exec (PySem.Stmt.Assign [PySem.Expr.Name _ _] (PySem.Expr.ListComp _ [⟨PySem.Expr.Name _ _, PySem.Expr.Call _ _ _ _, [], _⟩] _ _) _) _) _ _ _); k_dflt (refine LCg.Assign_ListComp_U (F₀ := by k_asm) (by rfl) (by with_unfolding_all rfl) (by with_unfolding_all rfl) (by decide) (by rfl) (by decide) (by rfl) (by rfl) (by rfl) ?_); (try k_dflt lcg_toSrc))
  k_with "mine ne" => (first | exact Ne.symm (And.left (by with_reducible assumption)) | exact Ne.symm (And.left (And.right (by with_reducible assumption))) | exact Ne.symm (And.left (And.right (And.right (by with_reducible assumption)))) | exact Ne.symm (And.left (And.right (And.right (And.right (by with_reducible assumption))))) | exact Ne.symm (And.left (And.right (And.right (And.right (And.right (by with_reducible assumption)))))) | exact Ne.symm (And.left (And.right (And.right (And.right (And.right (And.right (by with_reducible assumption))))))) | exact Ne.symm (And.left (And.right (And.right (And.right (And.right (And.right (And.right (by with_reducible assumption)))))))) | exact Ne.symm (And.left (And.right (And.right (And.right (And.right (And.right (And.right (And.right (by with_reducible assumption))))))))) | exact Ne.symm (And.left (And.right (And.right (And.right (And.right (And.right (And.right (And.right (And.right (by with_reducible assumption)))))))))) | exact Ne.symm (And.left (And.right (And.right (And.right (And.right (And.right (And.right (And.right (And.right (And.right (by with_reducible assumption))))))))))) | exact Nat.ne_of_gt (And.left (by with_reducible assumption)) | exact Nat.ne_of_gt (And.left (And.right (by with_reducible assumption))) | exact Nat.ne_of_gt (And.left (And.right (And.right (by with_reducible assumption)))) | exact Nat.ne_of_gt (And.left (And.right (And.right (And.right (by with_reducible assumption))))) | exact Nat.ne_of_gt (And.left (And.right (And.right (And.right (And.right (by with_reducible assumption)))))) | exact Nat.ne_of_gt (And.left (And.right (And.right (And.right (And.right (And.right (by with_reducible assumption))))))) | exact Nat.ne_of_gt (And.left (And.right (And.right (And.right (And.right (And.right (And.right (by with_reducible assumption)))))))) | exact Nat.ne_of_gt (And.left (And.right (And.right (And.right (And.right (And.right (And.right (And.right (by with_reducible assumption))))))))) | exact Nat.ne_of_gt (And.left (And.right (And.right (And.right (And.right (And.right (And.right (And.right (And.right (by with_reducible assumption)))))))))) | exact Nat.ne_of_gt (And.left (And.right (And.right (And.right (And.right (And.right (And.right (And.right (And.right (And.right (by with_reducible assumption))))))))))))
  trivial
theorem told_comp : ∀ (w : World) (mean : ExcName → Option Value) (mg mb : Str → Option Value) (elt : PySem.Expr) (sc esc : Scope) (L' nl D9 fo9 cc9 P9 ol9 nl9 ls : Addr) (ws9 ys os9 : List Value) (xs : List Int) (or9 of9 on9 okn oc9 oo2 : Obj) (vc9 : Array Value) (tc9 : Tok) (kr2 : List (Addr × Obj))
    (base g : Heap) (s : Shared) (Fin : Shared → List Value → List (Addr × Obj) → Prop)
    (hE : toldOf w.params = some (elt, sc, esc))
    (F41 : Fr g L' s.heap (fun y => if y = Str.ofString "script" then some (Value.ref ls) else none)) (N44 : News g L' s.heap ((P9, tabObj #[]) :: (118, tabObj #[]) :: (L' + 1 + 1 + 1 + 1, oo2) :: kr2))
    (TT : Tail2 [P9, 118, L' + 1 + 1 + 1 + 1] w L' nl D9 fo9 cc9 P9 ol9 nl9 ws9 ys os9 xs or9 of9 on9 okn oc9 kr2)
    (dr9 : or9.data = .cell (some (.ref D9))) (df9 : of9.data = .cell (some (.ref fo9))) (dc9 : oc9.data = .fields vc9) (dq9 : vc9[1]? = some (.str (Str.ofString "law.<locals>.<lambda>") tc9)) (ob1 : CodeOb oc9 P9) (ob2 : cc9 ≠ P9)
    (lP : @LT.lt Nat instLTNat 118 P9) (l118 : @LT.lt Nat instLTNat 118 L') (lP2 : @LT.lt Nat instLTNat (L' + 1 + 1 + 1 + 1) P9) (hO : OrdAre os9 7) (hxl : 0 < xs.length ∧ xs.length ≤ 6)
    (B : Below (AA 305 50 []) base [] g) (X : (Mine.heap39 w.params).In g) (T : Top topProg looseG mean mg mb g)
    (fin : ∀ (hh : Heap) zs kr4, Tail2 [L' + 1 + 1 + 1 + 1] w L' nl D9 fo9 cc9 P9 ol9 nl9 ws9 ys os9 xs or9 of9 on9 okn oc9 kr4 → ToldIn kr4 zs 7 (fun k => Vof (xs.map ruleOf).reverse (nm7 (6 - k)) xs.length) → TabsIn kr4 → Fin { s with heap := hh } zs ((L' + 1 + 1 + 1 + 1, oo2) :: kr4)),
    CompSrc PySem.Challenge.rw_in0045_01.row.prog w ((AA 305 50 []).deeper (envOfC (Str.ofString "law") esc L' 147 (.ref 146))) g L' (fun y => if y = Str.ofString "script" then some (Value.ref ls) else none) (envOfC (Str.ofString "law") esc L' 147 (.ref 146)) elt (Str.ofString "name") sc [(Str.ofString "fold", L' + 1 + 1 + 1)] Fin (.ref ol9) s := by
  k_fill
  intro w mean mg mb elt sc esc L' nl D9 fo9 cc9 P9 ol9 nl9 ls ws9 ys os9 xs or9 of9 on9 okn oc9 oo2 vc9 tc9 kr2 base g s Fin hE F41 N44 TT dr9 df9 dc9 dq9 ob1 ob2 lP l118 lP2 hO hxl B X T fin
  have hC : CodeHd g 146 144 := codeHd_of_K X (by kernel_rfl)
  cases hE
  dsimp only
  obtain ⟨no9', mol9⟩ := TT.ord
  refine' LCg.CompSrc.ledger rfl ?F0 ?N0 ?l0 ?z0 ?_
  (case F0 => exact F41)
  (case N0 => exact News.sub (n2 := (L' + 1 + 1 + 1 + 1, oo2) :: (P9, tabObj #[]) :: (118, tabObj #[]) :: kr2) N44 (by (repeat' refine List.forall_mem_cons.mpr ⟨by k_mem, ?_⟩); exact fun p hp => by k_mem))
  (case l0 => exact .tail _ (.tail _ (.tail _ mol9)))
  (case z0 => exact small_line (by rw [List.size_toArray, hO.1]; omega))
  intro g2
  have hsz7 : os9.toArray.size = 7 := by rw [List.size_toArray, hO.1]
  rw [hsz7]
  refine rest_ind 7 (fun i zs nw => ∃ tb kr3, nw = (L' + 1 + 1 + 1 + 1, oo2) :: (tb ++ kr3) ∧ TbSt i P9 tb ∧ (∀ p ∈ (L' + 1 + 1 + 1 + 1, oo2) :: kr3, p.1 ∉ tb.map (·.1)) ∧ Tail2 [P9, 118, L' + 1 + 1 + 1 + 1] w L' nl D9 fo9 cc9 P9 ol9 nl9 ws9 ys os9 xs or9 of9 on9 okn oc9 kr3 ∧
    ToldIn kr3 zs i (fun k => Vof (xs.map ruleOf).reverse (nm7 (6 - k)) xs.length)) ?turn2 ?fin2 7 0 [] _ rfl ?st2
  (case turn2 =>
    rintro i zs nw v I oI C oC D m₂ h tk E' hi ⟨tb, kr3, rfl, hst, hap, TT3, hT⟩ hPv hC' hx F1 N1 off ne
    obtain ⟨t, rfl⟩ : ∃ t, v = .str (nm7 (6 - i)) t := by
      obtain ⟨t, ht⟩ := hO.2 i hi
      have hP' : os9[i]? = some v := by simpa using hPv
      rw [ht] at hP'
      exact ⟨t, (Option.some.inj hP').symm⟩
    obtain ⟨kr4, hk4⟩ : ∃ k, k = tb ++ kr3 := ⟨_, rfl⟩
    rw [← hk4] at N1
    have mf4 : (L' + 1 + 1 + 1, of9) ∈ kr4 := hk4 ▸ List.mem_append_right _ TT3.cfold
    obtain ⟨params, body, scope, pos, pm, ctv, hE, mfo⟩ := TT3.fold
    have mfo4 : (fo9, kla_obj (Str.ofString "<lambda>") (Str.ofString "law.<locals>.<lambda>") params body scope [(Str.ofString "rules", L' + 1 + 1 + 1 + 1 + 1)] pm cc9 ctv) ∈ kr4 := hk4 ▸ List.mem_append_right _ mfo
    repeat' (first | walk1 | (dsimp only; walk1))
    refine Stop.out ?_
    refine wpAny_call ?_
    have F1 := F1
    have om := off.mem
    have off0 : ∀ p ∈ (I, oI) :: (C, oC) :: (D, LCg.lst zs) :: (L' + 1 + 1 + 1 + 1, oo2) :: kr3, p.1 ∉ tb.map (·.1) := by
      intro p hp hm
      obtain ⟨q, hq, e⟩ := List.mem_map.mp hm
      have o3 := om q (.tail _ (List.mem_append_left _ hq))
      simp only [List.mem_cons] at hp
      rcases hp with rfl | rfl | rfl | hp
      · exact o3.1 e
      · exact o3.2.1 e
      · exact o3.2.2 e
      · exact hap p (List.mem_cons.mpr hp) hm
    have N1b : News g L' h (tb ++ ((I, oI) :: (C, oC) :: (D, LCg.lst zs) :: (L' + 1 + 1 + 1 + 1, oo2) :: kr3)) := News.sub N1 (by
      intro p hp
      rcases List.mem_append.mp hp with hp | hp
      · exact .tail _ (.tail _ (.tail _ (.tail _ (hk4 ▸ List.mem_append_left _ hp))))
      · simp only [List.mem_cons] at hp ⊢
        rcases hp with hp | hp | hp | hp | hp
        · exact .inl hp
        · exact .inr (.inl hp)
        · exact .inr (.inr (.inl hp))
        · exact .inr (.inr (.inr (.inl hp)))
        · exact .inr (.inr (.inr (.inr (hk4 ▸ List.mem_append_right _ hp)))))
    refine' useT (tb := tb) (d := 310) (u := 100) B F1 (News.sub N1b fun p hp => List.mem_append_left _ hp) X T ?hA ?hf ?hk ?hh ?hd ?hu ?_
    (case hA => exact rfl)
    (case hf => exact rfl)
    (case hk => exact rfl)
    (case hh => exact rfl)
    (case hd => exact Nat.le_of_ble_eq_true rfl)
    (case hu => exact Nat.le_of_ble_eq_true rfl)
    intro g3 hg3 st3 B3 X3 T3
    have hK3 : ∀ p ∈ kr3, g3.get? p.1 = some p.2 := fun p hp => by
      rw [hg3]
      exact hideAll_get _ (N1b p (List.mem_append_right _ (.tail _ (.tail _ (.tail _ (.tail _ hp)))))).1 (off0 p (.tail _ (.tail _ (.tail _ (.tail _ hp)))))
    have hyl : ys.length = xs.length := by rw [TT3.rules.length, List.length_map]
    refine fold_any w mean mg mb fo9 cc9 P9 (L' + 1 + 1 + 1 + 1 + 1) D9 params body scope pos pm ctv (nm7 (6 - i)) t ys (xs.map ruleOf) _ base g3 _ _ i hE tb hg3 hst (fun q hq => (N1b q (List.mem_append_left _ hq)).1) lP (ob1.hd (hK3 _ TT3.code) ob2) (hK3 _ mfo) ⟨cc9, oc9, vc9, tc9, rfl, hK3 _ TT3.code, dc9, dq9⟩
      ⟨_, hK3 _ TT3.crules, dr9⟩ ⟨_, hK3 _ TT3.rlist, rfl, _, rfl⟩ (small_line (by rw [List.size_toArray, hyl]; omega)) (TT3.rules.are hK3) (by omega) (nm7_ascii (by omega)) B3 X3 T3 ?_
    intro h50 tk50 u50 tb5 k50 hW5 hat5 hfr5
    rw [hyl]
    obtain ⟨F50, N50a, N50b⟩ := after_tabG F1 N1b off0 (hg3 ▸ k50) hat5 hfr5
    have frI : ∀ q ∈ tb5, ∀ p ∈ (I, oI) :: (C, oC) :: (D, LCg.lst zs) :: (L' + 1 + 1 + 1 + 1, oo2) :: kr3, p.1 ≠ q.1 := by
      intro q hq p hp e
      rcases hfr5 q hq with h1 | h1
      · exact off0 p hp (e ▸ h1)
      · have := (N1b p (List.mem_append_right _ hp)).1
        rw [e] at this
        rw [this] at h1; cases h1
    obtain ⟨kr5, hk5⟩ : ∃ k, k = tb5 ++ kr3 := ⟨_, rfl⟩
    have N51 : News g L' h50 ((I, oI) :: (C, oC) :: (D, LCg.lst zs) :: (L' + 1 + 1 + 1 + 1, oo2) :: kr5) := fun p hp => by
      simp only [List.mem_cons] at hp
      rcases hp with hp | hp | hp | hp | hp
      · exact N50b p (by rw [hp]; exact .head _)
      · exact N50b p (by rw [hp]; exact .tail _ (.head _))
      · exact N50b p (by rw [hp]; exact .tail _ (.tail _ (.head _)))
      · exact N50b p (by rw [hp]; exact .tail _ (.tail _ (.tail _ (.head _))))
      · rw [hk5] at hp
        rcases List.mem_append.mp hp with hp | hp
        · exact N50a p hp
        · exact N50b p (.tail _ (.tail _ (.tail _ (.tail _ hp))))
    clear N50a N50b F1 N1 N1b B3 X3 T3 st3 hK3 k50 hat5 hg3
    repeat' (first | walk1 | (dsimp only; walk1))
    refine Stop.out ?_
    rename_i l9 _ F52 N52 ll52
    have al : Apart kr5 l9 := apart_lt ll52.2.2.2.2
    have n0 : ∀ p ∈ kr3, p ∈ (l9, W.listOf #[.str (nm7 (6 - i)) t, .int (Vof (xs.map ruleOf).reverse (nm7 (6 - i)) xs.length) u50] 0) :: kr3 := fun p hp => .tail _ hp
    have P9m : ∃ q ∈ tb5, q.1 = P9 := by
      obtain ⟨c2, oc2, vs2, t2, tb', rfl, _⟩ := hW5
      exact ⟨_, .head _, rfl⟩
    have m118 : ∃ q ∈ tb5, q.1 = 118 := by
      obtain ⟨c2, oc2, vs2, t2, tb', rfl, ⟨c, oc, vs, t, rfl, _⟩, _⟩ := hW5
      exact ⟨_, .tail _ (.tail _ (.head _)), rfl⟩
    refine' LCg.CompEnd.intro F52 N52 ((L' + 1 + 1 + 1 + 1, oo2) :: (tb5 ++ (l9, W.listOf #[.str (nm7 (6 - i)) t, .int (Vof (xs.map ruleOf).reverse (nm7 (6 - i)) xs.length) u50] 0) :: kr3)) ?sub5 ?off5 ?S5 ⟨tb5, _, rfl, .inr ⟨Nat.succ_pos _, hW5⟩, ?hap5, TT3.more n0 ?aw5, hT.snoc n0 (.head _)⟩
    (case sub5 =>
      refine List.forall_mem_cons.mpr ⟨by k_mem, List.forall_mem_cons.mpr ⟨by k_mem, List.forall_mem_cons.mpr ⟨by k_mem, List.forall_mem_cons.mpr ⟨by k_mem, fun p hp => ?_⟩⟩⟩⟩
      rcases List.mem_append.mp hp with hp | hp
      · have : p ∈ kr5 := hk5 ▸ List.mem_append_left _ hp
        k_mem
      · rcases List.mem_cons.mp hp with rfl | hp
        · k_mem
        · have : p ∈ kr5 := hk5 ▸ List.mem_append_right _ hp
          k_mem)
    (case off5 =>
      refine LCg.Off3.of fun p hp => ?_
      rcases List.mem_cons.mp hp with rfl | hp
      · exact om _ (.head _)
      · rcases List.mem_append.mp hp with hp | hp
        · exact ⟨(frI p hp (I, oI) (.head _)).symm, (frI p hp (C, oC) (.tail _ (.head _))).symm, (frI p hp (D, LCg.lst zs) (.tail _ (.tail _ (.head _)))).symm⟩
        · rcases List.mem_cons.mp hp with rfl | hp
          · exact ⟨by k_ne, by k_ne, by k_ne⟩
          · exact om _ (.tail _ (List.mem_append_right _ hp)))
    (case S5 =>
      obtain ⟨no2, m2⟩ := TT3.ord
      exact Or.inr ⟨_, .tail _ (List.mem_append_right _ (.tail _ m2)), rfl, _, rfl⟩)
    (case hap5 =>
      intro p hp hm
      obtain ⟨q, hq, e⟩ := List.mem_map.mp hm
      rcases List.mem_cons.mp hp with rfl | hp
      · exact frI q hq (L' + 1 + 1 + 1 + 1, oo2) (by k_mem) e.symm
      · rcases List.mem_cons.mp hp with rfl | hp
        · exact al q (hk5 ▸ List.mem_append_left _ hq) e
        · exact frI q hq p (.tail _ (.tail _ (.tail _ (.tail _ hp)))) e.symm)
    (case aw5 =>
      refine TT3.away.cons ?_
      intro c hc
      simp only [List.mem_cons, List.not_mem_nil, or_false] at hc
      rcases hc with e | e | e
      · obtain ⟨q, hq, e2⟩ := P9m
        rw [e, ← e2]; exact (al q (hk5 ▸ List.mem_append_left _ hq)).symm
      · obtain ⟨q, hq, e2⟩ := m118
        rw [e, ← e2]; exact (al q (hk5 ▸ List.mem_append_left _ hq)).symm
      · rw [e]; k_ne))
  (case st2 =>
    refine ⟨[(P9, tabObj #[]), (118, tabObj #[])], kr2, rfl, .inl ⟨rfl, rfl⟩, ?_, TT, ToldIn.nil⟩
    intro p hp hm
    simp only [List.map_cons, List.map_nil, List.mem_cons, List.not_mem_nil, or_false] at hm
    rcases List.mem_cons.mp hp with rfl | hp
    · rcases hm with e | e
      · exact absurd e (by k_ne)
      · exact absurd e (by k_ne)
    · rcases hm with e | e
      · exact TT.away P9 (by k_mem) p hp e
      · exact TT.away 118 (by k_mem) p hp e)
  (case fin2 =>
    rintro zs nw ⟨tb, kr3, rfl, hst, hap, TT3, hT⟩
    have k3 : ∀ p ∈ kr3, p ∈ tb ++ kr3 := fun p hp => List.mem_append_right _ hp
    refine fin _ zs _ (TT3.more k3 (Away.append ?_ ?_)) ⟨hT.1, fun k hk => ?_⟩ ?_
    · intro c hc p hp e
      rw [List.mem_singleton.mp hc] at e
      exact hap _ (.head _) (List.mem_map.mpr ⟨p, hp, e⟩)
    · intro c hc
      rw [List.mem_singleton.mp hc]
      exact TT3.away _ (by k_mem)
    · obtain ⟨l, t, t', n, a1, a2⟩ := hT.2 k hk
      exact ⟨l, t, t', n, a1, k3 _ a2⟩
    · rcases hst with ⟨e, _⟩ | ⟨_, c2, oc2, vs2, t2, tb', rfl, ⟨c, oc, vs, t, rfl, _⟩, _⟩
      · exact absurd e (by decide)
      obtain ⟨v1, m1⟩ := TT3.tabs2.1
      obtain ⟨v2, m2⟩ := TT3.tabs2.2
      intro d hd
      simp only [List.mem_cons, List.not_mem_nil, or_false] at hd
      rcases hd with rfl | rfl | rfl
      · exact ⟨v1, k3 _ m1⟩
      · exact ⟨_, List.mem_append_left _ (.tail _ (.tail _ (.head _)))⟩
      · exact ⟨v2, k3 _ m2⟩)
end
section
-- text N87
open PySem PySem.W PyProof.Rows PySem.Calls PyProof.Rows.LCg PyProof.Rows.LCt
set_option maxHeartbeats 8000000
theorem rows_N87 : True := by
  k_with_none
  k_with "mine sides0" => ((case k3 => k_asm); (case k5 => k_asm); (case k6 => k_is); (case k7 => k_is); (case k8 => exact Nat.le_of_ble_eq_true rfl); (case k9 => first | exact BindsTo.of_eq rfl | exact binds_K (by k_in) rfl (by k_is) rfl rfl rfl); (case c5 => decide); (case kB => exact locs rfl); (case c2 => exact rfl); (case c3 => exact rfl); (case c4 => exact rfl))
  k_with "mine sidesC" => ((case k3 => k_asm); (case k5 => k_asm); (case k6 => k_is); (case k7 => k_is); (case k8 => exact Nat.le_of_ble_eq_true rfl); (case k9 => first | exact BindsTo.of_eq rfl | exact binds_K (by k_in) rfl (by k_is) rfl rfl rfl); (case kB => exact rfl); (case kD => decide +kernel); (case c2 => exact rfl); (case c3 => exact rfl); (case c4 => exact rfl))
  k_with "mine enter0" => ((refine' enterS (by k_asm) (by k_asm) (by k_is) (by k_is) (by exact Nat.le_of_ble_eq_true rfl) (by first | exact BindsTo.of_eq rfl | exact binds_K (by k_in) rfl (by k_is) rfl rfl rfl) (by exact locs rfl) ?_ (by exact rfl) (by exact rfl) (by exact rfl) (by decide); k_whole; intro L' h' F' N'); (try (revert L' h' F' N'; intros)))
  k_with "mine enterC" => ((refine' enterSC (by k_asm) (by k_asm) (by k_is) (by k_is) (by exact Nat.le_of_ble_eq_true rfl) (by first | exact BindsTo.of_eq rfl | exact binds_K (by k_in) rfl (by k_is) rfl rfl rfl) (by exact rfl) (by decide +kernel) ?_ (by exact rfl) (by exact rfl) (by exact rfl); k_whole; intro L' h' tk' cells' F' N' Y'; k_cells Y'; (try simp only [List.cons_append, List.nil_append, List.append_nil] at N')); (try (revert L' h' tk' cells' F' N' Y'; intros)))
  k_with "eval ListComp" => (k_here; lcf_look; k_dflt (refine LCg.ListComp_U (F₀ := by k_asm) (by with_unfolding_all rfl) (by decide) (by rfl) (by decide) (by rfl) ?_); k_dflt lcg_toSrc)
  k_with "CompSrc" => (k_here; k_dflt (first | (refine LCg.CompSrc.ledger (by rfl) (by k_asm) (by k_asm) (by k_mem) (by first | size_fits | exact Nat.le_of_ble_eq_true rfl) ?_; intro g'; lcg_lit) | (refine LCg.CompSrc.base (by rfl) (by k_asm) (by k_asm) (by assumption) (by first | size_fits | exact Nat.le_of_ble_eq_true rfl) ?_; intro g'; lcg_lit) | (refine LCg.CompSrc.range (by rfl) (by k_asm) (by k_asm) (by assumption) (by first | decide | rfl) (by first | rfl | decide) (by first | size_fits | exact Nat.le_of_ble_eq_true rfl) ?_; intro g'; lcg_lit)))
  k_with "getMethod str" => ((with_reducible show wpAny _ _ (getMethod (Value.str _ _) (PySem.Str.ofString "translate") _) _ _ _); refine GM.of _ (typeIs_str _ _ _) F.slot_str_translate F.type_str_translate GM.noRef ?_)
  k_with "call builtin:str.translate" => ((k_here; k_dflt (refine' translate_K (by k_asm) (by k_asm) (by k_asm) (by k_is) (by decide +kernel) (by assumption) (by rfl) (by rfl) (by rename _ ∨ _ => hn9; rcases hn9 with e | e <;> (rw [e]; decide +kernel)) ?_; k_whole); intro t9 h9 tk9 F9 N9); (try (revert t9 h9 tk9 F9 N9; intros)))
  k_with "getAttr ref" => ((k_here; (with_reducible show wpAny _ _ (getAttr (Value.ref _) (PySem.Str.ofString "append") _) _ _ _); k_dflt (refine' getAttr_append_K (by k_asm) (by k_asm) (by k_mem) ?_; k_whole); intro u' h' tk' F' N' l1; (try k_lt l1); (try k_sweep)); (try (revert u' h' tk' F' N' l1; intros)))
  k_with "callWith ref" => (k_here; (with_reducible show wpAny _ _ (callWith _ (Value.ref _) _ (backTo _ (starEach (_ :: _) _)) []) _ _ _); k_dflt (refine' callWith_bnd_K (by k_asm) (by k_mem) ?_; k_whole))
  k_with "And" => ((with_reducible show BndAt _ _ _ _ ∧ _); k_dflt (refine ⟨bndAt_of (by k_asm) (by k_mem), ?_⟩); (try dsimp only [List.nil_append, List.cons_append]))
  k_with "call ref" => ((k_here; k_dflt (refine' call_bnd_append_K (by k_asm) (by k_asm) (by k_mem) (by k_updF) (by first | assumption | size_fits | exact Nat.le_of_ble_eq_true rfl) ?_; k_whole); intro h' F' N'; (try dsimp only at N'); (try k_sweep)); (try (revert h' F' N'; intros)))
  k_with "exec While Compare cons nil" => (k_here; (with_reducible show wpAny _ _ (exec (Stmt.While _ _ _ _) _) _ _ _); refine Stop.go ?_)
  k_with "call builtin:len" => ((k_here; (with_reducible show wpAny _ _ (call (Value.builtin "len") [Value.str (Str.mk _) _]) _ _ _); (first | refine len_known 3 rfl rfl ?_ | refine len_known 2 rfl rfl ?_ | refine len_known 1 rfl rfl ?_ | refine len_known 0 rfl rfl ?_); intro t9 k9); (try (revert t9 k9; intros)))
  k_with "subscriptTail Name Name str int" => ((k_here; (with_reducible show wpAny _ _ (subscriptTail _ _ (Value.str _ _) (Value.int _ _)) _ _ _); k_dflt (refine' item_at (by assumption) (by omega) ?_; k_whole); intro t9 k9); (try (revert t9 k9; intros)))
  k_with "subscriptTail" => (k_here; (with_reducible show wpAny _ _ (subscriptTail _ _ (Value.ref _) (Value.int (-1) _)) _ _ _); k_dflt (refine' item_last (by k_asm) (by k_mem) (by omega) ?_; k_whole))
  k_with "truthy ref" => ((k_here; (with_reducible show wpAny _ _ (truthy (Value.ref _)) _ _ _); k_dflt (first | (refine' truthy_known true (by k_asm) (by k_mem) (by (first | assumption | exact Nat.le_of_ble_eq_true rfl | (simp only [Array.size_push]; omega))) (by (first | rfl | (simp; done))) ?_; k_whole) | (refine' truthy_known false (by k_asm) (by k_mem) (by (first | assumption | exact Nat.le_of_ble_eq_true rfl)) (by rfl) ?_; k_whole)); intro k9); (try (revert k9; intros)))
  k_with "ite" => (k_closed; k_dflt (first | refine ite_pos (by decide +kernel) ?_ | refine ite_neg (by decide +kernel) ?_))
  k_with "exec For Name Call cons nil" => (k_here; (with_reducible show wpAny _ _ (exec (Stmt.For _ _ _ _ _) _) _ _ _); refine Stop.go ?_)
  k_with "pyIter ref" => (k_here; (with_reducible show wpAny _ _ (pyIter _) (fun _ _ => LoopAtV _ _ _ _ _ _ _ _ _ _ _) _ _); refine Stop.go ?_)
  k_with "call builtin:len" => ((k_here; (with_reducible show wpAny _ _ (call (Value.builtin "len") [Value.ref _]) _ _ _); k_dflt (refine' len_list_is (by first | assumption | exact Fr.lst (by assumption) (by assumption)) (by assumption) (by omega) ?_; k_whole); intro t9 k9); (try (revert t9 k9; intros)))
  k_with "compareOp In int ref" => (k_here; k_dflt (refine' in_list_ints (by is_list) (by assumption) ?_; k_whole))
  k_with "subscriptTail Name BinOp ref int" => (k_here; k_dflt (refine' item_pred (by is_list) (by assumption) (by omega) ?_; k_whole))
  k_with "binaryOp Add ref ref" => ((k_here; k_dflt (refine' add_ints_K (by k_asm) (by k_asm) (by k_mem) (by k_mem) (by assumption) (by omega) ?_; k_whole); intro D' h' ws' F' N' hI'); (try (revert D' h' ws' F' N' hI'; intros)))
  k_with "exec Assign cons ListComp" => (k_here; lct_look; k_dflt (refine LCt.Assign_ListComp_T (F₀ := by k_asm) (by rfl) (by with_unfolding_all rfl) (by with_unfolding_all rfl) (by decide) (by rfl) (by decide) (by rfl) (by rfl) (by rfl) ?_); k_dflt lct_toSrc)
  k_with "subscriptTail Name Name ref int" => (k_here; k_dflt (refine' item_nat_list (by is_list) (by assumption) (by omega) ?_; k_whole))
  k_with "compareOp In none ref" => (k_here; k_dflt (refine' in_disp (by is_list) (by assumption) ?_; k_whole))
  k_with "compareOp In str ref" => (k_here; k_dflt (refine' in_disp (by is_list) (by assumption) ?_; k_whole))
  k_with "mine use80" => (refine wpAny_call ?_; (refine' use0 (d := 380) (u := 800) ?B ?F ?X ?T ?hA ?hf ?hk ?hh ?hd ?hu ?_; (case B => k_asm); (case F => k_asm); (case X => k_asm); (case T => k_asm); (case hA => exact rfl); (case hf => exact rfl); (case hk => exact rfl); (case hh => exact rfl); (case hd => exact Nat.le_of_ble_eq_true rfl); (case hu => exact Nat.le_of_ble_eq_true rfl)))
  k_with "call builtin:iter" => ((k_here; (with_reducible show wpAny _ _ (call (Value.builtin "iter") [Value.str _ _]) _ _ _); k_dflt (refine' iter_str_K (by k_asm) (by k_asm) (by assumption) ?_; k_whole); intro I9 h9 F9 N9 l9 f9; (try k_lt l9)); (try (revert I9 h9 F9 N9 l9 f9; intros)))
  k_with "compareOp Is ref ref" => (k_here; (with_reducible show wpAny _ _ (compareOp CmpOp.Is (Value.ref _) (Value.ref _)) _ _ _); k_dflt (refine' is_list_other (by is_list) (by kto_obj) (by assumption) ?_; k_whole))
  k_with "mine use70" => (refine wpAny_call ?_; (refine' use0 (d := 370) (u := 700) ?B ?F ?X ?T ?hA ?hf ?hk ?hh ?hd ?hu ?_; (case B => k_asm); (case F => k_asm); (case X => k_asm); (case T => k_asm); (case hA => exact rfl); (case hf => exact rfl); (case hk => exact rfl); (case hh => exact rfl); (case hd => exact Nat.le_of_ble_eq_true rfl); (case hu => exact Nat.le_of_ble_eq_true rfl)))
  k_with "mine use60" => (refine wpAny_call ?_; (refine' use0 (d := 360) (u := 600) ?B ?F ?X ?T ?hA ?hf ?hk ?hh ?hd ?hu ?_; (case B => k_asm); (case F => k_asm); (case X => k_asm); (case T => k_asm); (case hA => exact rfl); (case hf => exact rfl); (case hk => exact rfl); (case hh => exact rfl); (case hd => exact Nat.le_of_ble_eq_true rfl); (case hu => exact Nat.le_of_ble_eq_true rfl)))
  k_with "mine use50" => (refine wpAny_call ?_; (refine' use0 (d := 350) (u := 500) ?B ?F ?X ?T ?hA ?hf ?hk ?hh ?hd ?hu ?_; (case B => k_asm); (case F => k_asm); (case X => k_asm); (case T => k_asm); (case hA => exact rfl); (case hf => exact rfl); (case hk => exact rfl); (case hh => exact rfl); (case hd => exact Nat.le_of_ble_eq_true rfl); (case hu => exact Nat.le_of_ble_eq_true rfl)))
  k_with "eval Name" => (k_here; kc_free; k_dflt (refine' nameX_old (by k_asm) (by rfl) (by assumption) ?_ (by rfl) (by rfl); k_whole))
  k_with "call builtin:iter" => ((k_here; (with_reducible show wpAny _ _ (call (Value.builtin "iter") [Value.ref _]) _ _ _); k_dflt (refine' iter_list_K (by k_asm) (by k_asm) (by is_list) ?_; k_whole); intro I9 h9 F9 N9 l9 f9; (try k_lt l9)); (try (revert I9 h9 F9 N9 l9 f9; intros)))
  k_with "exec For Name Name cons nil" => (k_here; (with_reducible show wpAny _ _ (exec (Stmt.For _ _ _ _ _) _) _ _ _); refine Stop.go ?_)
  k_with "callWith ref" => (k_here; (with_reducible show wpAny _ _ (callWith _ (Value.ref _) _ (backTo _ (starEach (_ :: _) _)) []) _ _ _); k_dflt (refine' callWith_F (by exact fnAt_kept (by k_asm) (by assumption)) ?_; k_whole))
  k_with "And" => ((with_reducible show FnAt _ _ ∧ _); k_dflt (refine ⟨fnAt_kept (by k_asm) (by assumption), ?_⟩); (try dsimp only [List.nil_append, List.cons_append]))
  k_with "call ref" => (k_here; (with_reducible show wpAny _ _ (call (Value.ref _) [Value.int _ _, Value.ref _]) _ _ _); refine Stop.go ?_)
  k_with "compareOp Is int ref" => (k_here; (with_reducible show wpAny _ _ (compareOp CmpOp.Is (Value.int _ _) (Value.ref _)) _ _ _); refine wpAny_is_other (by rfl) (by intro x; cases x) ?_)
  k_with "call ref" => (k_here; (with_reducible show wpAny _ _ (call (Value.ref 90) [Value.ref 130]) _ _ _); refine Stop.go ?_)
  k_with "CompSrcT" => (k_here; refine Stop.go ?_)
  k_with "CompEnd" => (k_here; refine Stop.go ?_)
  k_with "eval ListComp" => (k_here; (with_reducible show wpAny _ _ (eval (PySem.Expr.ListComp _ [⟨PySem.Expr.Tuple _ _ _, _, _, _⟩] _ _) _) _ _ _); refine Stop.go ?_)
  k_with "call ref" => (k_here; (with_reducible show wpAny _ _ (call (Value.ref _) _) _ _ _); refine Stop.go ?_)
  k_with "CompSrc" => (k_here; refine Stop.go ?_)
  k_with "mine use90" => (refine wpAny_call ?_; (refine' use0 (d := 390) (u := 900) ?B ?F ?X ?T ?hA ?hf ?hk ?hh ?hd ?hu ?_; (case B => k_asm); (case F => k_asm); (case X => k_asm); (case T => k_asm); (case hA => exact rfl); (case hf => exact rfl); (case hk => exact rfl); (case hh => exact rfl); (case hd => exact Nat.le_of_ble_eq_true rfl); (case hu => exact Nat.le_of_ble_eq_true rfl)))
  k_with "call ref" => ((k_here; (with_reducible show wpAny _ _ (call (Value.ref 104) [Value.int _ _]) _ _ _); k_dflt (walk_at "mine use90"; intro B9 X9 T9; (refine' pattern_spec _ _ _ _ _ _ _ callerA _ _ _ B9 X9 T9 ?_); clear B9 X9 T9; intro t9 h9 tk9 x9; (have F9 := Fr.keeps (by k_asm) x9); (have N9 := News.keeps (by k_asm) x9); clear x9; (try dsimp only); (try k_sweep))); (try (revert t9 h9 tk9 F9 N9; intros)))
  k_with "call builtin:str.replace" => (k_here; refine Stop.go ?_)
  k_with "eval Lambda" => ((k_here; kn_here; k_dflt (refine' kla_eval (by exact rfl) ?_); (k_dflt (refine' kla_nest2r (by k_asm) (by k_asm) (by k_asm) (by exact rfl) (by kn_code) (by k_updF) (by kn_triples) (by kn_among) (by exact rfl) ?_; k_whole); intro f' c' P' oc' vs' t' ct' h' tk' F' N' d1' d2' l1 lP l2 l3 ob1 ob2; (try dsimp only at N'); (try k_lt l1); (try k_lt lP); (try k_lt2 l2); (try k_lt2 l3))); (try (revert f' c' P' oc' vs' t' ct' h' tk' F' N' d1' d2' l1 lP l2 l3 ob1 ob2; intros)))
  k_with "exec Assign cons ListComp" => (k_here; (with_reducible show wpAny _ _ (exec (PySem.Stmt.Assign [PySem.Expr.Name _ _] (PySem.Expr.ListComp _ [⟨PySem.Expr.Name _ _, PySem.Expr.Call _ _ _ _, [], _⟩] _ _) _) _) _ _ _); k_dflt (refine LCg.Assign_ListComp_U (F₀ := by k_asm) (by rfl) (by with_unfolding_all rfl) (by with_unfolding_all rfl) (by decide) (by rfl) (by decide) (by rfl) (by rfl) (by rfl) ?_); (try k_dflt lcg_toSrc))
  k_with "call builtin:dict.get" => (k_here; refine Stop.go ?_)
  k_with "exec Assign" => (k_here; refine Stop.go ?_)
  k_with "subscriptTail Name BinOp ref int" => (k_here; refine Stop.go ?_)
  k_with "subscriptTail Name Name ref int" => (k_here; refine Stop.go ?_)
  k_with "subscriptTail Subscript Constant ref int" => (k_here; refine Stop.go ?_)
  k_with "subscriptTail Subscript Constant int ref int" => (k_here; refine Stop.go ?_)
  k_with "mine ne" => (first | exact Ne.symm (And.left (by with_reducible assumption)) | exact Ne.symm (And.left (And.right (by with_reducible assumption))) | exact Ne.symm (And.left (And.right (And.right (by with_reducible assumption)))) | exact Ne.symm (And.left (And.right (And.right (And.right (by with_reducible assumption))))) | exact Ne.symm (And.left (And.right (And.right (And.right (And.right (by with_reducible assumption)))))) | exact Ne.symm (And.left (And.right (And.right (And.right (And.right (And.right (by with_reducible assumption))))))) | exact Ne.symm (And.left (And.right (And.right (And.right (And.right (And.right (And.right (by with_reducible assumption)))))))) | exact Ne.symm (And.left (And.right (And.right (And.right (And.right (And.right (And.right (And.right (by with_reducible assumption))))))))) | exact Ne.symm (And.left (And.right (And.right (And.right (And.right (And.right (And.right (And.right (And.right (by with_reducible assumption)))))))))) | exact Ne.symm (And.left (And.right (And.right (And.right (And.right (And.right (And.right (And.right (And.right (And.right (by with_reducible assumption))))))))))) | exact Nat.ne_of_gt (And.left (by with_reducible assumption)) | exact Nat.ne_of_gt (And.left (And.right (by with_reducible assumption))) | exact Nat.ne_of_gt (And.left (And.right (And.right (by with_reducible assumption)))) | exact Nat.ne_of_gt (And.left (And.right (And.right (And.right (by with_reducible assumption))))) | exact Nat.ne_of_gt (And.left (And.right (And.right (And.right (And.right (by with_reducible assumption)))))) | exact Nat.ne_of_gt (And.left (And.right (And.right (And.right (And.right (And.right (by with_reducible assumption))))))) | exact Nat.ne_of_gt (And.left (And.right (And.right (And.right (And.right (And.right (And.right (by with_reducible assumption)))))))) | exact Nat.ne_of_gt (And.left (And.right (And.right (And.right (And.right (And.right (And.right (And.right (by with_reducible assumption))))))))) | exact Nat.ne_of_gt (And.left (And.right (And.right (And.right (And.right (And.right (And.right (And.right (And.right (by with_reducible assumption)))))))))) | exact Nat.ne_of_gt (And.left (And.right (And.right (And.right (And.right (And.right (And.right (And.right (And.right (And.right (by with_reducible assumption))))))))))))
  trivial
def toldD (f : Nat → Int) (k : Nat) : List PyData := [.str (nm7 (6 - k)), .int (f k)]
theorem ToldIn.lists {kr : List (Addr × Obj)} {f : Nat → Int} : ∀ {i : Nat} {zs : List Value}, ToldIn kr zs i f → ListsIn kr zs ((List.range i).map (toldD f))
  | 0, zs, h => by
    have : zs = [] := List.eq_nil_of_length_eq_zero h.1
    subst this; exact .nil
  | i + 1, zs, h => by
    obtain ⟨l, t, t', n, e, m⟩ := h.2 i (Nat.lt_succ_self _)
    have hl := h.1
    have e2 : zs = zs.take i ++ [.ref l] := by
      have h3 : zs.take (i + 1) = zs.take i ++ [.ref l] := by rw [List.take_add_one, e]; rfl
      rw [← h3, List.take_of_length_le (by omega)]
    have h' : ToldIn kr (zs.take i) i f := ⟨by rw [List.length_take]; omega, fun k hk => by
      obtain ⟨l, t, t', n, e, m⟩ := h.2 k (by omega)
      exact ⟨l, t, t', n, by rw [List.getElem?_take_of_lt hk]; exact e, m⟩⟩
    rw [e2, List.range_succ, List.map_append]
    exact (ToldIn.lists h').snoc ⟨l, _, _, _, rfl, m, rfl, rfl, .cons (.str _ _) (.cons (.int _ _) .nil)⟩
theorem told_flat {f : Nat → Int} : ∀ ds ∈ (List.range 7).map (toldD f), ds.all flatD = true := by
  intro ds hd
  obtain ⟨k, hk, rfl⟩ := List.mem_map.mp hd
  have hk : 6 - k < 7 := by omega
  simp only [toldD, List.all_cons, List.all_nil, Bool.and_true, flatD]
  generalize 6 - k = j at hk
  obtain h | h | h | h | h | h | h : j = 0 ∨ j = 1 ∨ j = 2 ∨ j = 3 ∨ j = 4 ∨ j = 5 ∨ j = 6 := lt7 (by first | assumption | omega)
  all_goals (subst h; decide +kernel)
theorem item_atZ {prog : Program} {w : World} {A : Around} {E : Value → Shared → Prop} {s : Shared} {value slice : Expr} {l : Addr} {its : Array Value} {z : Int} {k : Nat} {u : Tok} {v : Value} {Q : Value → Shared → Prop} (hl : s.heap.IsList l its) (hz : z = (k : Int)) (hk : k ≤ 1000) (hv : its[k]? = some v) (h : Q v s)
    (hs : subscripted slice false (.ref l) (.int z u) = operate [.ref l, .int z u] (getItem (.ref l) (.int z u)) := by with_unfolding_all rfl) :
    wpAny (model prog w) A (subscriptTail value slice (.ref l) (.int z u)) Q E s := by
  subst hz
  exact tail_any hl.typeIs slot_list_getitem.lookup (wpAny_getItem_list hl (by omega) (by omega) (by simpa using hv) h) hs
theorem names_item {tn : Tok} {k : Nat} (h : k < 7) : ∃ t, (#[.str (nm7 0) tn, .str (nm7 1) (tn + 1), .str (nm7 2) (tn + 1 + 1), .str (nm7 3) (tn + 1 + 1 + 1), .str (nm7 4) (tn + 1 + 1 + 1 + 1), .str (nm7 5) (tn + 1 + 1 + 1 + 1 + 1), .str (nm7 6) (tn + 1 + 1 + 1 + 1 + 1 + 1)] : Array Value)[k]? = some (.str (nm7 k) t) := by
  obtain h | h | h | h | h | h | h : k = 0 ∨ k = 1 ∨ k = 2 ∨ k = 3 ∨ k = 4 ∨ k = 5 ∨ k = 6 := lt7 (by first | assumption | omega)
  all_goals (subst h; exact ⟨_, rfl⟩)
theorem law_tail4 : ∀ (w : World) (mean : ExcName → Option Value) (mg mb : Str → Option Value) (stmts : List Stmt) (esc : Scope) (L' nl tl D7 : Addr) (ys zs : List Value) (xs : List Int) (on9 o8 : Obj) (kr : List (Addr × Obj)) (tn9 : Tok) (Ds ls : Addr)
    (base g : Heap) (s : Shared) (Q : Flow → Shared → Prop) (E : Value → Shared → Prop)
    (hE : lawAt w.params 8 = some (stmts, esc))
    (F1 : Fr g L' s.heap (fun y => if y = Str.ofString "single" then some (Value.ref Ds) else if y = Str.ofString "told" then some (.ref tl) else if y = Str.ofString "script" then some (Value.ref ls) else none)) (N1 : News g L' s.heap ((D7, LCg.lst ys) :: (L' + 1 + 1 + 1 + 1, o8) :: kr))
    (mcn : (L' + 1 + 1, on9) ∈ kr) (dn9 : on9.data = .cell (some (.ref nl))) (mnm : (nl, namesObj tn9) ∈ kr) (mtl : (tl, LCg.lst zs) ∈ kr)
    (hT : ToldIn kr zs 7 (fun k => firstOf xs (nm7 (6 - k)))) (TB : TabsIn kr) (hFs : FirstsIn xs kr ys 7) (d8 : o8.data = .cell (some (.ref D7)))
    (B : Below (AA 305 50 []) base [] g) (X : (Mine.heap39 w.params).In g) (T : Top topProg looseG mean mg mb g)
    (hQ : ∀ h' tk', (∀ b o, g.get? b = some o → h'.get? b = some o) → TabsNow h' → Q (.ret (.bool true)) { s with heap := h', toks := tk' }),
    wpAny (model PySem.Challenge.rw_in0045_01.row.prog w) ((AA 305 50 []).deeper (envOfC (Str.ofString "law") esc L' 147 (.ref 146))) (execs stmts (envOfC (Str.ofString "law") esc L' 147 (.ref 146))) Q E s := by
  k_fill
  intro w mean mg mb stmts esc L' nl tl D7 ys zs xs on9 o8 kr tn9 Ds ls base g s Q E hE F1 N1 mcn dn9 mnm mtl hT TB hFs d8 B X T hQ
  have hC : CodeHd g 146 144 := codeHd_of_K X (by kernel_rfl)
  cases hE
  repeat' (first | walk1 | (dsimp only; walk1))
  refine Stop.out ?_
  rename_i h9 tk9 t9 u9 v9 hr9 F9 N9 k9
  clear k9
  refine' LCg.CompSrc.range (n := 7) rfl F9 N9 hr9 rfl rfl (Nat.le_of_ble_eq_true rfl) ?_
  intro gg
  refine rest_ind 7 (fun i ys' nw' => (∀ p ∈ (D7, LCg.lst ys) :: (L' + 1 + 1 + 1 + 1, o8) :: kr, p ∈ nw') ∧ ToldIn nw' ys' i (fun k => firstOf xs (nm7 (6 - k)))) ?turn7 ?fin7 7 0 [] _ rfl ⟨fun p hp => hp, ToldIn.nil⟩
  (case turn7 =>
    rintro i ys' nw' v I oI C oC D m₂ h tk E' hi ⟨hs7, hT7⟩ hPv hC' hx F N off ne
    obtain ⟨t, rfl⟩ := hPv
    have m1 : (L' + 1 + 1, on9) ∈ nw' := hs7 _ (.tail _ (.tail _ mcn))
    have m2 : (nl, namesObj tn9) ∈ nw' := hs7 _ (.tail _ (.tail _ mnm))
    have m3 : (L' + 1 + 1 + 1 + 1, o8) ∈ nw' := hs7 _ (.tail _ (.head _))
    have m4 : (D7, LCg.lst ys) ∈ nw' := hs7 _ (.head _)
    obtain ⟨lf, vf, nf, tf, e1, e2, e3⟩ := hFs.2 i hi
    have m5 : (lf, W.listOf vf nf) ∈ nw' := hs7 _ (.tail _ (.tail _ e2))
    obtain ⟨tn, en⟩ := names_item (tn := tn9) (k := 6 - i) (by omega)
    dsimp only
    repeat' (first | walk1 | (dsimp only; walk1))
    refine Stop.out ?_
    refine item_atZ (k := 6 - i) ⟨_, N.get (by k_mem), rfl, _, rfl⟩ (by omega) (by omega) en ?_
    repeat' (first | walk1 | (dsimp only; walk1))
    refine Stop.out ?_
    refine item_atZ (k := i) ⟨_, N.get (a := D7) (by k_mem), rfl, _, rfl⟩ (by omega) (by omega) (by simpa using e1) ?_
    repeat' (first | walk1 | (dsimp only; walk1))
    refine Stop.out ?_
    refine item_atZ (k := 0) ⟨_, N.get (a := lf) (by k_mem), rfl, _, rfl⟩ rfl (by omega) e3 ?_
    repeat' (first | walk1 | (dsimp only; walk1))
    refine Stop.out ?_
    rename_i l9 h9' F9' N9' ll9
    refine' LCg.CompEnd.intro F9' N9' ((l9, W.listOf #[.str (nm7 (6 - i)) tn, .int (firstOf xs (nm7 (6 - i))) tf] 0) :: nw') ?sb7 ?of7 trivial ⟨fun p hp => .tail _ (hs7 p hp), hT7.snoc (fun p hp => .tail _ hp) (.head _)⟩
    (case sb7 => (repeat' refine List.forall_mem_cons.mpr ⟨by k_mem, ?_⟩); exact fun p hp => by k_mem)
    (case of7 =>
      have om := off.mem
      refine LCg.Off3.of fun p hp => ?_
      rcases List.mem_cons.mp hp with rfl | hp
      · exact ⟨by k_ne, by k_ne, by k_ne⟩
      · exact om p hp))
  (case fin7 =>
    rintro ys' nw' ⟨hs7, hT7⟩
    walk1
    rename_i D9 h9' tk9' F9' N9' o9'
    refine' eq_rows (L := L') (h₀ := g) N9' (.tail _ (hs7 _ (.tail _ (.tail _ mtl)))) (.head _) (hT.lists.more fun p hp => .tail _ (hs7 _ (.tail _ (.tail _ hp)))) (hT7.lists.more fun p hp => .tail _ hp) ?flat ?hu ?_
    (case hu => exact Nat.le_of_ble_eq_true rfl)
    (case flat => exact told_flat)
    repeat' (first | walk1 | (dsimp only; walk1))
    all_goals exact hQ _ _ (Fr.keep (by assumption)) (TabsIn.now (h₀ := g) (L := L') TB fun p hp => (N9' p (.tail _ (hs7 _ (.tail _ (.tail _ hp))))).1))
end
section
-- text N85
open PySem PySem.W PyProof.Rows PySem.Calls PyProof.Rows.LCg PyProof.Rows.LCt
set_option maxHeartbeats 8000000
theorem rows_N85 : True := by
  k_with_none
  k_with "mine sides0" => ((case k3 => k_asm); (case k5 => k_asm); (case k6 => k_is); (case k7 => k_is); (case k8 => exact Nat.le_of_ble_eq_true rfl); (case k9 => first | exact BindsTo.of_eq rfl | exact binds_K (by k_in) rfl (by k_is) rfl rfl rfl); (case c5 => decide); (case kB => exact locs rfl); (case c2 => exact rfl); (case c3 => exact rfl); (case c4 => exact rfl))
  k_with "mine sidesC" => ((case k3 => k_asm); (case k5 => k_asm); (case k6 => k_is); (case k7 => k_is); (case k8 => exact Nat.le_of_ble_eq_true rfl); (case k9 => first | exact BindsTo.of_eq rfl | exact binds_K (by k_in) rfl (by k_is) rfl rfl rfl); (case kB => exact rfl); (case kD => decide +kernel); (case c2 => exact rfl); (case c3 => exact rfl); (case c4 => exact rfl))
  k_with "mine enter0" => ((refine' enterS (by k_asm) (by k_asm) (by k_is) (by k_is) (by exact Nat.le_of_ble_eq_true rfl) (by first | exact BindsTo.of_eq rfl | exact binds_K (by k_in) rfl (by k_is) rfl rfl rfl) (by exact locs rfl) ?_ (by exact rfl) (by exact rfl) (by exact rfl) (by decide); k_whole; intro L' h' F' N'); (try (revert L' h' F' N'; intros)))
  k_with "mine enterC" => ((refine' enterSC (by k_asm) (by k_asm) (by k_is) (by k_is) (by exact Nat.le_of_ble_eq_true rfl) (by first | exact BindsTo.of_eq rfl | exact binds_K (by k_in) rfl (by k_is) rfl rfl rfl) (by exact rfl) (by decide +kernel) ?_ (by exact rfl) (by exact rfl) (by exact rfl); k_whole; intro L' h' tk' cells' F' N' Y'; k_cells Y'; (try simp only [List.cons_append, List.nil_append, List.append_nil] at N')); (try (revert L' h' tk' cells' F' N' Y'; intros)))
  k_with "eval ListComp" => (k_here; lcf_look; k_dflt (refine LCg.ListComp_U (F₀ := by k_asm) (by with_unfolding_all rfl) (by decide) (by rfl) (by decide) (by rfl) ?_); k_dflt lcg_toSrc)
  k_with "CompSrc" => (k_here; k_dflt (first | (refine LCg.CompSrc.ledger (by rfl) (by k_asm) (by k_asm) (by k_mem) (by first | size_fits | exact Nat.le_of_ble_eq_true rfl) ?_; intro g'; lcg_lit) | (refine LCg.CompSrc.base (by rfl) (by k_asm) (by k_asm) (by assumption) (by first | size_fits | exact Nat.le_of_ble_eq_true rfl) ?_; intro g'; lcg_lit) | (refine LCg.CompSrc.range (by rfl) (by k_asm) (by k_asm) (by assumption) (by first | decide | rfl) (by first | rfl | decide) (by first | size_fits | exact Nat.le_of_ble_eq_true rfl) ?_; intro g'; lcg_lit)))
  k_with "getMethod str" => ((with_reducible show wpAny _ _ (getMethod (Value.str _ _) (PySem.Str.ofString "translate") _) _ _ _); refine GM.of _ (typeIs_str _ _ _) F.slot_str_translate F.type_str_translate GM.noRef ?_)
  k_with "call builtin:str.translate" => ((k_here; k_dflt (refine' translate_K (by k_asm) (by k_asm) (by k_asm) (by k_is) (by decide +kernel) (by assumption) (by rfl) (by rfl) (by rename _ ∨ _ => hn9; rcases hn9 with e | e <;> (rw [e]; decide +kernel)) ?_; k_whole); intro t9 h9 tk9 F9 N9); (try (revert t9 h9 tk9 F9 N9; intros)))
  k_with "getAttr ref" => ((k_here; (with_reducible show wpAny _ _ (getAttr (Value.ref _) (PySem.Str.ofString "append") _) _ _ _); k_dflt (refine' getAttr_append_K (by k_asm) (by k_asm) (by k_mem) ?_; k_whole); intro u' h' tk' F' N' l1; (try k_lt l1); (try k_sweep)); (try (revert u' h' tk' F' N' l1; intros)))
  k_with "callWith ref" => (k_here; (with_reducible show wpAny _ _ (callWith _ (Value.ref _) _ (backTo _ (starEach (_ :: _) _)) []) _ _ _); k_dflt (refine' callWith_bnd_K (by k_asm) (by k_mem) ?_; k_whole))
  k_with "And" => ((with_reducible show BndAt _ _ _ _ ∧ _); k_dflt (refine ⟨bndAt_of (by k_asm) (by k_mem), ?_⟩); (try dsimp only [List.nil_append, List.cons_append]))
  k_with "call ref" => ((k_here; k_dflt (refine' call_bnd_append_K (by k_asm) (by k_asm) (by k_mem) (by k_updF) (by first | assumption | size_fits | exact Nat.le_of_ble_eq_true rfl) ?_; k_whole); intro h' F' N'; (try dsimp only at N'); (try k_sweep)); (try (revert h' F' N'; intros)))
  k_with "exec While Compare cons nil" => (k_here; (with_reducible show wpAny _ _ (exec (Stmt.While _ _ _ _) _) _ _ _); refine Stop.go ?_)
  k_with "call builtin:len" => ((k_here; (with_reducible show wpAny _ _ (call (Value.builtin "len") [Value.str (Str.mk _) _]) _ _ _); (first | refine len_known 3 rfl rfl ?_ | refine len_known 2 rfl rfl ?_ | refine len_known 1 rfl rfl ?_ | refine len_known 0 rfl rfl ?_); intro t9 k9); (try (revert t9 k9; intros)))
  k_with "subscriptTail Name Name str int" => ((k_here; (with_reducible show wpAny _ _ (subscriptTail _ _ (Value.str _ _) (Value.int _ _)) _ _ _); k_dflt (refine' item_at (by assumption) (by omega) ?_; k_whole); intro t9 k9); (try (revert t9 k9; intros)))
  k_with "subscriptTail" => (k_here; (with_reducible show wpAny _ _ (subscriptTail _ _ (Value.ref _) (Value.int (-1) _)) _ _ _); k_dflt (refine' item_last (by k_asm) (by k_mem) (by omega) ?_; k_whole))
  k_with "truthy ref" => ((k_here; (with_reducible show wpAny _ _ (truthy (Value.ref _)) _ _ _); k_dflt (first | (refine' truthy_known true (by k_asm) (by k_mem) (by (first | assumption | exact Nat.le_of_ble_eq_true rfl | (simp only [Array.size_push]; omega))) (by (first | rfl | (simp; done))) ?_; k_whole) | (refine' truthy_known false (by k_asm) (by k_mem) (by (first | assumption | exact Nat.le_of_ble_eq_true rfl)) (by rfl) ?_; k_whole)); intro k9); (try (revert k9; intros)))
  k_with "ite" => (k_closed; k_dflt (first | refine ite_pos (by decide +kernel) ?_ | refine ite_neg (by decide +kernel) ?_))
  k_with "exec For Name Call cons nil" => (k_here; (with_reducible show wpAny _ _ (exec (Stmt.For _ _ _ _ _) _) _ _ _); refine Stop.go ?_)
  k_with "pyIter ref" => (k_here; (with_reducible show wpAny _ _ (pyIter _) (fun _ _ => LoopAtV _ _ _ _ _ _ _ _ _ _ _) _ _); refine Stop.go ?_)
  k_with "call builtin:len" => ((k_here; (with_reducible show wpAny _ _ (call (Value.builtin "len") [Value.ref _]) _ _ _); k_dflt (refine' len_list_is (by first | assumption | exact Fr.lst (by assumption) (by assumption)) (by assumption) (by omega) ?_; k_whole); intro t9 k9); (try (revert t9 k9; intros)))
  k_with "compareOp In int ref" => (k_here; k_dflt (refine' in_list_ints (by is_list) (by assumption) ?_; k_whole))
  k_with "subscriptTail Name BinOp ref int" => (k_here; k_dflt (refine' item_pred (by is_list) (by assumption) (by omega) ?_; k_whole))
  k_with "binaryOp Add ref ref" => ((k_here; k_dflt (refine' add_ints_K (by k_asm) (by k_asm) (by k_mem) (by k_mem) (by assumption) (by omega) ?_; k_whole); intro D' h' ws' F' N' hI'); (try (revert D' h' ws' F' N' hI'; intros)))
  k_with "exec Assign cons ListComp" => (k_here; lct_look; k_dflt (refine LCt.Assign_ListComp_T (F₀ := by k_asm) (by rfl) (by with_unfolding_all rfl) (by with_unfolding_all rfl) (by decide) (by rfl) (by decide) (by rfl) (by rfl) (by rfl) ?_); k_dflt lct_toSrc)
  k_with "subscriptTail Name Name ref int" => (k_here; k_dflt (refine' item_nat_list (by is_list) (by assumption) (by omega) ?_; k_whole))
  k_with "compareOp In none ref" => (k_here; k_dflt (refine' in_disp (by is_list) (by assumption) ?_; k_whole))
  k_with "compareOp In str ref" => (k_here; k_dflt (refine' in_disp (by is_list) (by assumption) ?_; k_whole))
  k_with "mine use80" => (refine wpAny_call ?_; (refine' use0 (d := 380) (u := 800) ?B ?F ?X ?T ?hA ?hf ?hk ?hh ?hd ?hu ?_; (case B => k_asm); (case F => k_asm); (case X => k_asm); (case T => k_asm); (case hA => exact rfl); (case hf => exact rfl); (case hk => exact rfl); (case hh => exact rfl); (case hd => exact Nat.le_of_ble_eq_true rfl); (case hu => exact Nat.le_of_ble_eq_true rfl)))
  k_with "call builtin:iter" => ((k_here; (with_reducible show wpAny _ _ (call (Value.builtin "iter") [Value.str _ _]) _ _ _); k_dflt (refine' iter_str_K (by k_asm) (by k_asm) (by assumption) ?_; k_whole); intro I9 h9 F9 N9 l9 f9; (try k_lt l9)); (try (revert I9 h9 F9 N9 l9 f9; intros)))
  k_with "compareOp Is ref ref" => (k_here; (with_reducible show wpAny _ _ (compareOp CmpOp.Is (Value.ref _) (Value.ref _)) _ _ _); k_dflt (refine' is_list_other (by is_list) (by kto_obj) (by assumption) ?_; k_whole))
  k_with "mine use70" => (refine wpAny_call ?_; (refine' use0 (d := 370) (u := 700) ?B ?F ?X ?T ?hA ?hf ?hk ?hh ?hd ?hu ?_; (case B => k_asm); (case F => k_asm); (case X => k_asm); (case T => k_asm); (case hA => exact rfl); (case hf => exact rfl); (case hk => exact rfl); (case hh => exact rfl); (case hd => exact Nat.le_of_ble_eq_true rfl); (case hu => exact Nat.le_of_ble_eq_true rfl)))
  k_with "mine use60" => (refine wpAny_call ?_; (refine' use0 (d := 360) (u := 600) ?B ?F ?X ?T ?hA ?hf ?hk ?hh ?hd ?hu ?_; (case B => k_asm); (case F => k_asm); (case X => k_asm); (case T => k_asm); (case hA => exact rfl); (case hf => exact rfl); (case hk => exact rfl); (case hh => exact rfl); (case hd => exact Nat.le_of_ble_eq_true rfl); (case hu => exact Nat.le_of_ble_eq_true rfl)))
  k_with "mine use50" => (refine wpAny_call ?_; (refine' use0 (d := 350) (u := 500) ?B ?F ?X ?T ?hA ?hf ?hk ?hh ?hd ?hu ?_; (case B => k_asm); (case F => k_asm); (case X => k_asm); (case T => k_asm); (case hA => exact rfl); (case hf => exact rfl); (case hk => exact rfl); (case hh => exact rfl); (case hd => exact Nat.le_of_ble_eq_true rfl); (case hu => exact Nat.le_of_ble_eq_true rfl)))
  k_with "eval Name" => (k_here; kc_free; k_dflt (refine' nameX_old (by k_asm) (by rfl) (by assumption) ?_ (by rfl) (by rfl); k_whole))
  k_with "call builtin:iter" => ((k_here; (with_reducible show wpAny _ _ (call (Value.builtin "iter") [Value.ref _]) _ _ _); k_dflt (refine' iter_list_K (by k_asm) (by k_asm) (by is_list) ?_; k_whole); intro I9 h9 F9 N9 l9 f9; (try k_lt l9)); (try (revert I9 h9 F9 N9 l9 f9; intros)))
  k_with "exec For Name Name cons nil" => (k_here; (with_reducible show wpAny _ _ (exec (Stmt.For _ _ _ _ _) _) _ _ _); refine Stop.go ?_)
  k_with "callWith ref" => (k_here; (with_reducible show wpAny _ _ (callWith _ (Value.ref _) _ (backTo _ (starEach (_ :: _) _)) []) _ _ _); k_dflt (refine' callWith_F (by exact fnAt_kept (by k_asm) (by assumption)) ?_; k_whole))
  k_with "And" => ((with_reducible show FnAt _ _ ∧ _); k_dflt (refine ⟨fnAt_kept (by k_asm) (by assumption), ?_⟩); (try dsimp only [List.nil_append, List.cons_append]))
  k_with "call ref" => (k_here; (with_reducible show wpAny _ _ (call (Value.ref _) [Value.int _ _, Value.ref _]) _ _ _); refine Stop.go ?_)
  k_with "compareOp Is int ref" => (k_here; (with_reducible show wpAny _ _ (compareOp CmpOp.Is (Value.int _ _) (Value.ref _)) _ _ _); refine wpAny_is_other (by rfl) (by intro x; cases x) ?_)
  k_with "call ref" => (k_here; (with_reducible show wpAny _ _ (call (Value.ref 90) [Value.ref 130]) _ _ _); refine Stop.go ?_)
  k_with "CompSrcT" => (k_here; refine Stop.go ?_)
  k_with "CompEnd" => (k_here; refine Stop.go ?_)
  k_with "eval ListComp" => (k_here; (with_reducible show wpAny _ _ (eval (PySem.Expr.ListComp _ [⟨PySem.Expr.Tuple _ _ _, _, _, _⟩] _ _) _) _ _ _); refine Stop.go ?_)
  k_with "call ref" => (k_here; (with_reducible show wpAny _ _ (call (Value.ref _) _) _ _ _); refine Stop.go ?_)
  k_with "CompSrc" => (k_here; refine Stop.go ?_)
  k_with "mine use90" => (refine wpAny_call ?_; (refine' use0 (d := 390) (u := 900) ?B ?F ?X ?T ?hA ?hf ?hk ?hh ?hd ?hu ?_; (case B => k_asm); (case F => k_asm); (case X => k_asm); (case T => k_asm); (case hA => exact rfl); (case hf => exact rfl); (case hk => exact rfl); (case hh => exact rfl); (case hd => exact Nat.le_of_ble_eq_true rfl); (case hu => exact Nat.le_of_ble_eq_true rfl)))
  k_with "call ref" => ((k_here; (with_reducible show wpAny _ _ (call (Value.ref 104) [Value.int _ _]) _ _ _); k_dflt (walk_at "mine use90"; intro B9 X9 T9; (refine' pattern_spec _ _ _ _ _ _ _ callerA _ _ _ B9 X9 T9 ?_); clear B9 X9 T9; intro t9 h9 tk9 x9; (have F9 := Fr.keeps (by k_asm) x9); (have N9 := News.keeps (by k_asm) x9); clear x9; (try dsimp only); (try k_sweep))); (try (revert t9 h9 tk9 F9 N9; intros)))
  k_with "call builtin:str.replace" => (k_here; refine Stop.go ?_)
  k_with "eval Lambda" => ((k_here; kn_here; k_dflt (refine' kla_eval (by exact rfl) ?_); (k_dflt (refine' kla_nest2r (by k_asm) (by k_asm) (by k_asm) (by exact rfl) (by kn_code) (by k_updF) (by kn_triples) (by kn_among) (by exact rfl) ?_; k_whole); intro f' c' P' oc' vs' t' ct' h' tk' F' N' d1' d2' l1 lP l2 l3 ob1 ob2; (try dsimp only at N'); (try k_lt l1); (try k_lt lP); (try k_lt2 l2); (try k_lt2 l3))); (try (revert f' c' P' oc' vs' t' ct' h' tk' F' N' d1' d2' l1 lP l2 l3 ob1 ob2; intros)))
  k_with "exec Assign cons ListComp" => (k_here; (with_reducible show wpAny _ _ (exec (PySem.Stmt.Assign [PySem.Expr.Name _ _] (PySem.Expr.ListComp _ [⟨PySem.Expr.Name _ _, PySem.Expr.Call _ _ _ _, [], _⟩] _ _) _) _) _ _ _); k_dflt (refine LCg.Assign_ListComp_U (F₀ := by k_asm) (by rfl) (by with_unfolding_all rfl) (by with_unfolding_all rfl) (by decide) (by rfl) (by decide) (by rfl) (by rfl) (by rfl) ?_); (try k_dflt lcg_toSrc))
  k_with "call builtin:dict.get" => (k_here; refine Stop.go ?_)
  k_with "exec Assign" => (k_here; refine Stop.go ?_)
  k_with "binaryOp Add ref ref" => (k_here; refine Stop.go ?_)
  k_with "eval ListComp" => (k_here; (with_reducible show wpAny _ _ (eval (PySem.Expr.ListComp _ [⟨PySem.Expr.Name _ _, _, _ :: _, _⟩] _ _) _) _ _ _); refine Stop.go ?_)
  k_with "subscriptTail Name Slice ref ref" => ((k_here; (with_reducible show wpAny _ _ (subscriptTail _ (PySem.Expr.Slice none none (some _) _) (Value.ref _) (Value.ref _)) _ _ _); k_dflt (refine' krv_lit (by k_asm) (by k_asm) (by exact ⟨_, News.get (by k_asm) (by k_mem), rfl, _, rfl⟩) (by exact IsPart.int _ _) rfl ?_ (by with_unfolding_all rfl) (by kmk_pure) (by exact Nat.le_of_ble_eq_true rfl); k_whole); intro D' h' F' N' l1; (try k_lt l1)); (try (revert D' h' F' N' l1; intros)))
  k_with "mine ne" => (first | exact Ne.symm (And.left (by with_reducible assumption)) | exact Ne.symm (And.left (And.right (by with_reducible assumption))) | exact Ne.symm (And.left (And.right (And.right (by with_reducible assumption)))) | exact Ne.symm (And.left (And.right (And.right (And.right (by with_reducible assumption))))) | exact Ne.symm (And.left (And.right (And.right (And.right (And.right (by with_reducible assumption)))))) | exact Ne.symm (And.left (And.right (And.right (And.right (And.right (And.right (by with_reducible assumption))))))) | exact Ne.symm (And.left (And.right (And.right (And.right (And.right (And.right (And.right (by with_reducible assumption)))))))) | exact Ne.symm (And.left (And.right (And.right (And.right (And.right (And.right (And.right (And.right (by with_reducible assumption))))))))) | exact Ne.symm (And.left (And.right (And.right (And.right (And.right (And.right (And.right (And.right (And.right (by with_reducible assumption)))))))))) | exact Ne.symm (And.left (And.right (And.right (And.right (And.right (And.right (And.right (And.right (And.right (And.right (by with_reducible assumption))))))))))) | exact Nat.ne_of_gt (And.left (by with_reducible assumption)) | exact Nat.ne_of_gt (And.left (And.right (by with_reducible assumption))) | exact Nat.ne_of_gt (And.left (And.right (And.right (by with_reducible assumption)))) | exact Nat.ne_of_gt (And.left (And.right (And.right (And.right (by with_reducible assumption))))) | exact Nat.ne_of_gt (And.left (And.right (And.right (And.right (And.right (by with_reducible assumption)))))) | exact Nat.ne_of_gt (And.left (And.right (And.right (And.right (And.right (And.right (by with_reducible assumption))))))) | exact Nat.ne_of_gt (And.left (And.right (And.right (And.right (And.right (And.right (And.right (by with_reducible assumption)))))))) | exact Nat.ne_of_gt (And.left (And.right (And.right (And.right (And.right (And.right (And.right (And.right (by with_reducible assumption))))))))) | exact Nat.ne_of_gt (And.left (And.right (And.right (And.right (And.right (And.right (And.right (And.right (And.right (by with_reducible assumption)))))))))) | exact Nat.ne_of_gt (And.left (And.right (And.right (And.right (And.right (And.right (And.right (And.right (And.right (And.right (by with_reducible assumption))))))))))))
  trivial
theorem add_ints_K2 {prog : Program} {w : World} {A : Around} {E : Value → Shared → Prop} {s : Shared} {h₀ : Heap} {L l b : Addr} {m : Str → Option Value} {news : List (Addr × Obj)} {vs : List Value} {ns : List Int} {n n2 : Nat} {k : Int} {t : Tok} {Q : Value → Shared → Prop} (F : Fr h₀ L s.heap m) (N : News h₀ L s.heap news)
    (hl : (l, lobj vs.toArray n) ∈ news) (hb : (b, lobj (List.toArray [.int k t]) n2) ∈ news) (hi : IntsAre vs ns) (hz : ns.length ≤ 900)
    (h : ∀ D h' ws, Fr h₀ L h' m → News h₀ L h' ((D, lobj (List.toArray ws) 0) :: news) → IntsAre ws (ns ++ [k]) → (∀ p ∈ news, p.1 < D) → Q (.ref D) { s with heap := h' }) :
    wpAny (model prog w) A (binaryOp .Add (.ref l) (.ref b)) Q E s :=
  add_lists_ints (ms := [k]) F N (isList_of N hl) (isList_of N hb) hi (.cons k t .nil) (fun h' F' N' hI => h _ h' _ F' N' hI fun p hp => Heap.lt_size (N p hp).1) (small_line (by rw [List.length_singleton]; omega))
theorem fits_at (w : World) (mean : ExcName → Option Value) (mg mb : Str → Option Value) (base : Heap) (k : Nat) (p n : Str) (b : Bool) (t1 t2 : Tok) (d u : Nat)
    (fr : List Env) (s : Shared) (R : Result → Shared → Prop)
    (hb : fitsF p.cps.toList n.cps.toList = b) (hk : p.cps.toList.length + n.cps.toList.length ≤ k) (hd : d + k < 500) (hcs : p.cps.toList.length ≤ 8) (hns : n.cps.toList.length ≤ 8)
    (B : Below (AA d u fr) base fr s.heap) (X : (Mine.heap39 w.params).In s.heap) (T : Top topProg looseG mean mg mb s.heap)
    (hret : ∀ (h' : Heap) (tk' : Nat), (∀ b o, s.heap.get? b = some o → h'.get? b = some o) →
      R (.ok (.ret (.bool b))) { s with heap := h', toks := tk' }) :
    codeAny (model PySem.Challenge.rw_in0045_01.row.prog w) (AA d u fr) (.call (.ref 142) ⟨[.str p t1, .str n t2], []⟩) R s := by
  obtain ⟨⟨cs⟩⟩ := p
  obtain ⟨⟨ns⟩⟩ := n
  exact fits_ind w mean mg mb base k cs ns b t1 t2 d u fr s R hb hk hd hcs hns B X T hret
theorem nm7_len {k : Nat} (h : k < 7) : (nm7 k).cps.toList.length ≤ 2 := by
  obtain h | h | h | h | h | h | h : k = 0 ∨ k = 1 ∨ k = 2 ∨ k = 3 ∨ k = 4 ∨ k = 5 ∨ k = 6 := lt7 (by first | assumption | omega)
  all_goals (subst h; decide +kernel)
theorem pat_clen (z : Int) : (pat z).cps.toList.length = 3 := by
  obtain ⟨a, b, c, _, _, _, e⟩ := pat_is z
  rw [e]; rfl
theorem filt_true {xs : List Int} {j : Nat} {z : Int} {pf : Int → Bool} (h : xs[j]? = some z) (e : pf z = true) : ((xs.take (j + 1)).filter pf).map (fun x : Int => x.fmod 2) = ((xs.take j).filter pf).map (fun x : Int => x.fmod 2) ++ [z.fmod 2] := by
  rw [List.take_add_one, h]; simp [List.filter_append, e]
theorem filt_false {xs : List Int} {j : Nat} {z : Int} {pf : Int → Bool} (h : xs[j]? = some z) (e : pf z = false) : ((xs.take (j + 1)).filter pf).map (fun x : Int => x.fmod 2) = ((xs.take j).filter pf).map (fun x : Int => x.fmod 2) := by
  rw [List.take_add_one, h]; simp [List.filter_append, e]
theorem first_head {ws : List Value} {l : List Int} (h : IntsAre ws (l ++ [2])) : ∃ t, ws.toArray[0]? = some (.int ((l ++ [2]).headD 2) t) := by
  have e : (l ++ [(2 : Int)])[0]? = some ((l ++ [2]).headD 2) := by cases l <;> rfl
  obtain ⟨t, q⟩ := h.get 0 _ e
  exact ⟨t, by simpa using q⟩
theorem law_tail3 : ∀ (w : World) (mean : ExcName → Option Value) (mg mb : Str → Option Value) (stmts : List Stmt) (esc : Scope) (L' nl D9 fo9 cc9 P9 ol9 nl9 ls tl Ds : Addr) (ws9 ys os9 zs us : List Value) (xs : List Int) (or9 of9 on9 okn oc9 oo2 : Obj) (kr4 : List (Addr × Obj))
    (base g : Heap) (s : Shared) (Q : Flow → Shared → Prop) (E : Value → Shared → Prop)
    (hE : lawAt w.params 7 = some (stmts, esc))
    (F1 : Fr g L' s.heap (fun y => if y = Str.ofString "single" then some (Value.ref Ds) else if y = Str.ofString "told" then some (.ref tl) else if y = Str.ofString "script" then some (Value.ref ls) else none)) (N1 : News g L' s.heap ((Ds, LCg.lst us) :: (tl, LCg.lst zs) :: (L' + 1 + 1 + 1 + 1, oo2) :: kr4))
    (TT : Tail2 [L' + 1 + 1 + 1 + 1] w L' nl D9 fo9 cc9 P9 ol9 nl9 ws9 ys os9 xs or9 of9 on9 okn oc9 kr4) (TB : TabsIn kr4) (hT : ToldIn kr4 zs 7 (fun k => Vof (xs.map ruleOf).reverse (nm7 (6 - k)) xs.length))
    (nt : @Ne Nat (L' + 1 + 1 + 1 + 1) tl) (ns : @Ne Nat (L' + 1 + 1 + 1 + 1) Ds) (dr9 : or9.data = .cell (some (.ref D9))) (dn9 : on9.data = .cell (some (.ref nl))) (dkn : okn.data = .cell (some (.ref nl9))) (doo2 : oo2.data = .cell none) (hI9 : IntsAre ws9 xs) (hxl : 0 < xs.length ∧ xs.length ≤ 6)
    (B : Below (AA 305 50 []) base [] g) (X : (Mine.heap39 w.params).In g) (T : Top topProg looseG mean mg mb g)
    (hQ : ∀ h' tk', (∀ b o, g.get? b = some o → h'.get? b = some o) → TabsNow h' → Q (.ret (.bool true)) { s with heap := h', toks := tk' }),
    wpAny (model PySem.Challenge.rw_in0045_01.row.prog w) ((AA 305 50 []).deeper (envOfC (Str.ofString "law") esc L' 147 (.ref 146))) (execs stmts (envOfC (Str.ofString "law") esc L' 147 (.ref 146))) Q E s := by
  k_fill
  intro w mean mg mb stmts esc L' nl D9 fo9 cc9 P9 ol9 nl9 ls tl Ds ws9 ys os9 zs us xs or9 of9 on9 okn oc9 oo2 kr4 base g s Q E hE F1 N1 TT TB hT nt ns dr9 dn9 dkn doo2 hI9 hxl B X T hQ
  have hC : CodeHd g 146 144 := codeHd_of_K X (by kernel_rfl)
  cases hE
  have mkn := TT.cnum
  have mnl := TT.nums
  have mcn := TT.cnames
  obtain ⟨tn9, mnm⟩ := TT.names
  repeat' (first | walk1 | (dsimp only; walk1))
  refine Stop.out ?_
  refine wpAny_Assign_Name ?_ (by with_unfolding_all rfl)
  refine' comp_cellL (h₀ := g) (L := L') (m := fun y => if y = Str.ofString "single" then some (Value.ref Ds) else if y = Str.ofString "told" then some (Value.ref tl) else if y = Str.ofString "script" then some (Value.ref ls) else none) (n0 := Str.ofString ".0") (z := Str.ofString "numbers") ?hnm ?hxn ?hclos ?hkind ?_
  (case hnm => rfl)
  (case hxn => decide)
  (case hclos => with_unfolding_all rfl)
  (case hkind => rfl)
  repeat' (first | walk1 | (dsimp only; walk1))
  refine Stop.out ?_
  rename_i D6 h6 F6 N6 l6
  obtain ⟨rv, hrv⟩ : ∃ rv : Array Value, rv = #[.str (nm7 6) (tn9 + 1 + 1 + 1 + 1 + 1 + 1), .str (nm7 5) (tn9 + 1 + 1 + 1 + 1 + 1), .str (nm7 4) (tn9 + 1 + 1 + 1 + 1), .str (nm7 3) (tn9 + 1 + 1 + 1), .str (nm7 2) (tn9 + 1 + 1), .str (nm7 1) (tn9 + 1), .str (nm7 0) tn9] := ⟨_, rfl⟩
  replace N6 : News g L' h6 ((D6, W.listOf rv 0) :: (Ds, LCg.lst us) :: (tl, LCg.lst zs) :: (L' + 1 + 1 + 1 + 1, oo2) :: kr4) := by rw [hrv]; exact N6
  refine' ⟨D6, rv, _, fun i ys nw => ∃ kr, nw = (L' + 1 + 1 + 1 + 1, oo2) :: kr ∧ (∀ p ∈ (D6, W.listOf rv 0) :: (Ds, LCg.lst us) :: (tl, LCg.lst zs) :: kr4, p ∈ kr) ∧ Away [L' + 1 + 1 + 1 + 1] kr ∧ FirstsIn xs kr ys i, rfl, rfl, F6, News.sub (n2 := (L' + 1 + 1 + 1 + 1, oo2) :: (D6, W.listOf rv 0) :: (Ds, LCg.lst us) :: (tl, LCg.lst zs) :: kr4) N6 ?sb0, Or.inr ⟨_, .tail _ (.head _), rfl, _, rfl⟩, ?sz0, ⟨_, rfl, fun p hp => hp, ?aw0, .nil⟩, ?turn, ?fin⟩
  (case sz0 => rw [hrv]; exact Nat.le_of_ble_eq_true rfl)
  (case sb0 => (repeat' refine List.forall_mem_cons.mpr ⟨by k_mem, ?_⟩); exact fun p hp => by k_mem)
  (case aw0 =>
    intro c hc
    rw [List.mem_singleton.mp hc]
    exact Apart.cons (Apart.cons (Apart.cons (TT.away _ (.head _)) nt.symm) ns.symm) (Nat.ne_of_gt l6.2.2.1))
  (case turn =>
    rintro i ys nw v I oI C oC D c oc m₂ h tk E' hi ⟨kr, rfl, hsub, hA, hFs⟩ hPv hC' hoc F2 N2 off oc1 ne
    dsimp only
    have hi7 : i < 7 := by rw [hrv] at hi; exact hi
    obtain ⟨t, rfl⟩ : ∃ t, v = .str (nm7 (6 - i)) t := by
      rw [hrv] at hPv
      clear hFs hi
      obtain h | h | h | h | h | h | h : i = 0 ∨ i = 1 ∨ i = 2 ∨ i = 3 ∨ i = 4 ∨ i = 5 ∨ i = 6 := lt7 (by first | assumption | omega)
      all_goals (subst h; exact ⟨_, (Option.some.inj hPv).symm⟩)
    obtain ⟨nw0, hnw⟩ : ∃ nw, nw = (I, oI) :: (C, oC) :: (D, LCg.lst ys) :: (c, oc) :: (L' + 1 + 1 + 1 + 1, oo2) :: kr := ⟨_, rfl⟩
    have mc0 : (c, oc) ∈ nw0 := by rw [hnw]; exact .tail _ (.tail _ (.tail _ (.head _)))
    have hsub0 : ∀ p ∈ kr4, p ∈ nw0 := fun p hp => by rw [hnw]; exact .tail _ (.tail _ (.tail _ (.tail _ (.tail _ (hsub p (.tail _ (.tail _ (.tail _ hp))))))))
    have mkn0 : (L' + 1, okn) ∈ nw0 := hsub0 _ mkn
    have mnl0 : (nl9, W.listOf ws9.toArray 0) ∈ nw0 := hsub0 _ mnl
    rw [← hnw] at N2
    repeat' (first | walk1 | (dsimp only; walk1))
    refine Stop.out ?_
    refine' comp_listG (ct := some _) (h₀ := g) (L := L') (m := fun y => if y = Str.ofString "single" then some (Value.ref Ds) else if y = Str.ofString "told" then some (Value.ref tl) else if y = Str.ofString "script" then some (Value.ref ls) else none) ?hclos2 ?hcell2 ?hkind2 ?hnames2 ?hx2 ?_
    (case hclos2 => with_unfolding_all rfl)
    (case hcell2 => decide)
    (case hkind2 => rfl)
    (case hnames2 => decide)
    (case hx2 => rfl)
    walk1
    obtain ⟨pf, hpf⟩ : ∃ pf : Int → Bool, pf = fun z => fitsF (pat z).cps.toList (nm7 (6 - i)).cps.toList := ⟨_, rfl⟩
    have hsz9 : ws9.toArray.size = xs.length := by rw [List.size_toArray, hI9.length]
    refine ⟨nl9, ws9.toArray, nw0, fun j us nw => nw = nw0 ∧ IntsAre us (((xs.take j).filter pf).map fun x : Int => x.fmod 2), rfl, rfl, F2, N2, Or.inr ⟨_, mnl0, rfl, _, rfl⟩, ?sz, ⟨rfl, .nil⟩, ?turn5, ?fin5⟩
    (case sz => exact small_line (by rw [List.size_toArray, hI9.length]; omega))
    (case turn5 =>
      rintro j us nw v I5 oI5 C5 oC5 D5 m5 h5 tk5 E5 hj ⟨rfl, hI⟩ hPv5 hC5 hx5 F5 N5 off5 ne5
      rw [hsz9] at hj
      have hz : xs[j]? = some xs[j] := List.getElem?_eq_getElem hj
      obtain ⟨t5, hv1⟩ := hI9.get j xs[j] hz
      generalize xs[j] = z at hv1 hz
      have hvv : v = .int z t5 := by
        have hP' : ws9[j]? = some v := by simpa using hPv5
        rw [hv1] at hP'; exact (Option.some.inj hP').symm
      subst hvv
      clear hPv5
      show wpAny _ _ (isTrue _ _ _) _ _ _
      repeat' (first | walk1 | (dsimp only; walk1))
      refine Stop.out ?_
      rename_i t9 h9 tk9 F9 N9
      walk_at "mine use90"
      intro B9 X9 T9
      have l1 := pat_clen z
      have l2 := nm7_len (k := 6 - i) (by omega)
      refine fits_at w mean mg mb base 5 (pat z) (nm7 (6 - i)) (pf z) _ _ 390 900 _ _ _ (by rw [hpf]) (by omega) (by decide) (by omega) (by omega) B9 X9 T9 ?_
      clear B9 X9 T9 l1 l2
      intro h10 tk10 x10
      have F10 := F9.keeps x10
      have N10 := N9.keeps x10
      clear x10 N9 F9
      cases hpz : pf z with
      | true =>
        dsimp only
        repeat' (first | walk1 | (dsimp only; walk1))
        refine Stop.out ?_
        refine' LCg.CompEnd.intro F10 N10 nw (fun p hp => hp) off5 (Or.inr ⟨_, mnl0, rfl, _, rfl⟩) ⟨rfl, ?_⟩
        rw [filt_true hz hpz]
        exact hI.append (.cons _ _ .nil)
      | false =>
        dsimp only
        repeat' (first | walk1 | (dsimp only; walk1))
        refine Stop.out ?_
        refine' LCg.CompEnd.intro F10 N10 nw (fun p hp => hp) off5 (Or.inr ⟨_, mnl0, rfl, _, rfl⟩) ⟨rfl, ?_⟩
        rw [filt_false hz hpz]
        exact hI)
    (case fin5 =>
      rintro us nw ⟨rfl, hI⟩
      rw [hsz9, List.take_length] at hI
      intro D5 h5 tk5 F5 N5 off5
      have hfl : ((xs.filter pf).map fun x : Int => x.fmod 2).length ≤ 6 := by
        rw [List.length_map]
        exact Nat.le_trans (List.length_filter_le ..) hxl.2
      repeat' (first | walk1 | (dsimp only; walk1))
      refine Stop.out ?_
      rename_i l9 h9 F9 N9 ll9
      refine' add_ints_K2 (vs := us) (n := us.length) (n2 := 0) (t := tk5) F9 N9 (.tail _ (.head _)) (.head _) hI (by omega) ?_
      intro D10 h10 ws10 F10 N10 hI10 lt10
      repeat' (first | walk1 | (dsimp only; walk1))
      refine Stop.out ?_
      obtain ⟨t10, hh10⟩ := first_head hI10
      subst hnw
      have n0 : ∀ p ∈ kr, p ∈ (D10, lobj ws10.toArray 0) :: kr := fun p hp => .tail _ hp
      have nD : ∀ p ∈ (I, oI) :: (C, oC) :: (D, LCg.lst ys) :: (c, oc) :: (L' + 1 + 1 + 1 + 1, oo2) :: kr, @Ne Nat p.1 D10 := fun p hp => Nat.ne_of_lt (lt10 p (.tail _ (.tail _ hp)))
      refine' LCg.CompEnd.intro F10 N10 ((c, oc) :: (L' + 1 + 1 + 1 + 1, oo2) :: (D10, lobj ws10.toArray 0) :: kr) ?sb6 ?of6 trivial ⟨oc, _, _, rfl, hoc, ?o16, ?S6, _, rfl, fun p hp => n0 p (hsub p hp), ?aw6, hFs.snoc n0 (.head _) ?hv6⟩
      (case sb6 =>
        (repeat' refine List.forall_mem_cons.mpr ⟨by k_mem, ?_⟩)
        exact fun p hp => .tail _ (.tail _ (.tail _ (.tail _ (.tail _ (.tail _ (.tail _ (.tail _ hp))))))))
      (case of6 =>
        have om := off.mem
        refine LCg.Off3.of fun p hp => ?_
        simp only [List.mem_cons] at hp
        rcases hp with rfl | rfl | rfl | hp
        · exact om _ (.head _)
        · exact om _ (.tail _ (.head _))
        · exact ⟨(nD (I, oI) (.head _)).symm, (nD (C, oC) (.tail _ (.head _))).symm, (nD (D, LCg.lst ys) (.tail _ (.tail _ (.head _)))).symm⟩
        · exact om _ (.tail _ (.tail _ hp)))
      (case o16 =>
        refine Off1.of' fun p hp => ?_
        simp only [List.mem_cons] at hp
        rcases hp with rfl | rfl | hp
        · exact Off1.mem' oc1 _ (.head _)
        · exact (nD (c, oc) (.tail _ (.tail _ (.tail _ (.head _))))).symm
        · exact Off1.mem' oc1 _ (.tail _ hp))
      (case S6 => exact Or.inr ⟨_, .tail _ (n0 _ (hsub _ (.head _))), rfl, _, rfl⟩)
      (case aw6 =>
        refine hA.cons ?_
        intro d hd
        rw [List.mem_singleton.mp hd]
        exact (nD (L' + 1 + 1 + 1 + 1, oo2) (.tail _ (.tail _ (.tail _ (.tail _ (.head _)))))).symm)
      (case hv6 =>
        have e : firstOf xs (nm7 (6 - i)) = (((xs.filter pf).map fun x : Int => x.fmod 2) ++ [2]).headD 2 := by rw [hpf]; rfl
        rw [e]
        exact hh10)))
  (case fin =>
    rintro ys nw ⟨kr, rfl, hsub, hA, hFs⟩
    rw [show rv.size = 7 by rw [hrv]; rfl] at hFs
    intro D7 h7 tk7 F7 N7 o7
    have nd : @Ne Nat (L' + 1 + 1 + 1 + 1) D7 := o7.1
    dsimp only
    iterate 2 (first | walk1 | (dsimp only; walk1))
    rename_i h8 o8 F8 N8 d8
    refine law_tail4 w mean mg mb _ _ L' nl tl D7 ys zs xs on9 o8 kr tn9 Ds ls base g _ _ _ ?hE8 F8 N8 (hsub _ (.tail _ (.tail _ (.tail _ mcn)))) dn9 (hsub _ (.tail _ (.tail _ (.tail _ mnm)))) (hsub _ (.tail _ (.tail _ (.head _)))) ?hT8 (TB.more fun p hp => hsub _ (.tail _ (.tail _ (.tail _ hp)))) hFs d8 B X T ?hQ8
    (case hE8 => kernel_rfl)
    (case hT8 =>
      refine ⟨hT.1, fun k hk => ?_⟩
      obtain ⟨l, t, t', n, e, m⟩ := hT.2 k hk
      dsimp only at m
      rw [vof_first xs (6 - k) (by omega)] at m
      exact ⟨l, t, t', n, e, hsub _ (.tail _ (.tail _ (.tail _ m)))⟩)
    (case hQ8 => exact fun h' tk' k z => hQ h' tk' k z))
end
section
-- text N83
open PySem PySem.W PyProof.Rows PySem.Calls PyProof.Rows.LCg PyProof.Rows.LCt
set_option maxHeartbeats 8000000
theorem rows_N83 : True := by
  k_with_none
  k_with "mine sides0" => ((case k3 => k_asm); (case k5 => k_asm); (case k6 => k_is); (case k7 => k_is); (case k8 => exact Nat.le_of_ble_eq_true rfl); (case k9 => first | exact BindsTo.of_eq rfl | exact binds_K (by k_in) rfl (by k_is) rfl rfl rfl); (case c5 => decide); (case kB => exact locs rfl); (case c2 => exact rfl); (case c3 => exact rfl); (case c4 => exact rfl))
  k_with "mine sidesC" => ((case k3 => k_asm); (case k5 => k_asm); (case k6 => k_is); (case k7 => k_is); (case k8 => exact Nat.le_of_ble_eq_true rfl); (case k9 => first | exact BindsTo.of_eq rfl | exact binds_K (by k_in) rfl (by k_is) rfl rfl rfl); (case kB => exact rfl); (case kD => decide +kernel); (case c2 => exact rfl); (case c3 => exact rfl); (case c4 => exact rfl))
  k_with "mine enter0" => ((refine' enterS (by k_asm) (by k_asm) (by k_is) (by k_is) (by exact Nat.le_of_ble_eq_true rfl) (by first | exact BindsTo.of_eq rfl | exact binds_K (by k_in) rfl (by k_is) rfl rfl rfl) (by exact locs rfl) ?_ (by exact rfl) (by exact rfl) (by exact rfl) (by decide); k_whole; intro L' h' F' N'); (try (revert L' h' F' N'; intros)))
  k_with "mine enterC" => ((refine' enterSC (by k_asm) (by k_asm) (by k_is) (by k_is) (by exact Nat.le_of_ble_eq_true rfl) (by first | exact BindsTo.of_eq rfl | exact binds_K (by k_in) rfl (by k_is) rfl rfl rfl) (by exact rfl) (by decide +kernel) ?_ (by exact rfl) (by exact rfl) (by exact rfl); k_whole; intro L' h' tk' cells' F' N' Y'; k_cells Y'; (try simp only [List.cons_append, List.nil_append, List.append_nil] at N')); (try (revert L' h' tk' cells' F' N' Y'; intros)))
  k_with "eval ListComp" => (k_here; lcf_look; k_dflt (refine LCg.ListComp_U (F₀ := by k_asm) (by with_unfolding_all rfl) (by decide) (by rfl) (by decide) (by rfl) ?_); k_dflt lcg_toSrc)
  k_with "CompSrc" => (k_here; k_dflt (first | (refine LCg.CompSrc.ledger (by rfl) (by k_asm) (by k_asm) (by k_mem) (by first | size_fits | exact Nat.le_of_ble_eq_true rfl) ?_; intro g'; lcg_lit) | (refine LCg.CompSrc.base (by rfl) (by k_asm) (by k_asm) (by assumption) (by first | size_fits | exact Nat.le_of_ble_eq_true rfl) ?_; intro g'; lcg_lit) | (refine LCg.CompSrc.range (by rfl) (by k_asm) (by k_asm) (by assumption) (by first | decide | rfl) (by first | rfl | decide) (by first | size_fits | exact Nat.le_of_ble_eq_true rfl) ?_; intro g'; lcg_lit)))
  k_with "getMethod str" => ((with_reducible show wpAny _ _ (getMethod (Value.str _ _) (PySem.Str.ofString "translate") _) _ _ _); refine GM.of _ (typeIs_str _ _ _) F.slot_str_translate F.type_str_translate GM.noRef ?_)
  k_with "call builtin:str.translate" => ((k_here; k_dflt (refine' translate_K (by k_asm) (by k_asm) (by k_asm) (by k_is) (by decide +kernel) (by assumption) (by rfl) (by rfl) (by rename _ ∨ _ => hn9; rcases hn9 with e | e <;> (rw [e]; decide +kernel)) ?_; k_whole); intro t9 h9 tk9 F9 N9); (try (revert t9 h9 tk9 F9 N9; intros)))
  k_with "getAttr ref" => ((k_here; (with_reducible show wpAny _ _ (getAttr (Value.ref _) (PySem.Str.ofString "append") _) _ _ _); k_dflt (refine' getAttr_append_K (by k_asm) (by k_asm) (by k_mem) ?_; k_whole); intro u' h' tk' F' N' l1; (try k_lt l1); (try k_sweep)); (try (revert u' h' tk' F' N' l1; intros)))
  k_with "callWith ref" => (k_here; (with_reducible show wpAny _ _ (callWith _ (Value.ref _) _ (backTo _ (starEach (_ :: _) _)) []) _ _ _); k_dflt (refine' callWith_bnd_K (by k_asm) (by k_mem) ?_; k_whole))
  k_with "And" => ((with_reducible show BndAt _ _ _ _ ∧ _); k_dflt (refine ⟨bndAt_of (by k_asm) (by k_mem), ?_⟩); (try dsimp only [List.nil_append, List.cons_append]))
  k_with "call ref" => ((k_here; k_dflt (refine' call_bnd_append_K (by k_asm) (by k_asm) (by k_mem) (by k_updF) (by first | assumption | size_fits | exact Nat.le_of_ble_eq_true rfl) ?_; k_whole); intro h' F' N'; (try dsimp only at N'); (try k_sweep)); (try (revert h' F' N'; intros)))
  k_with "exec While Compare cons nil" => (k_here; (with_reducible show wpAny _ _ (exec (Stmt.While _ _ _ _) _) _ _ _); refine Stop.go ?_)
  k_with "call builtin:len" => ((k_here; (with_reducible show wpAny _ _ (call (Value.builtin "len") [Value.str (Str.mk _) _]) _ _ _); (first | refine len_known 3 rfl rfl ?_ | refine len_known 2 rfl rfl ?_ | refine len_known 1 rfl rfl ?_ | refine len_known 0 rfl rfl ?_); intro t9 k9); (try (revert t9 k9; intros)))
  k_with "subscriptTail Name Name str int" => ((k_here; (with_reducible show wpAny _ _ (subscriptTail _ _ (Value.str _ _) (Value.int _ _)) _ _ _); k_dflt (refine' item_at (by assumption) (by omega) ?_; k_whole); intro t9 k9); (try (revert t9 k9; intros)))
  k_with "subscriptTail" => (k_here; (with_reducible show wpAny _ _ (subscriptTail _ _ (Value.ref _) (Value.int (-1) _)) _ _ _); k_dflt (refine' item_last (by k_asm) (by k_mem) (by omega) ?_; k_whole))
  k_with "truthy ref" => ((k_here; (with_reducible show wpAny _ _ (truthy (Value.ref _)) _ _ _); k_dflt (first | (refine' truthy_known true (by k_asm) (by k_mem) (by (first | assumption | exact Nat.le_of_ble_eq_true rfl | (simp only [Array.size_push]; omega))) (by (first | rfl | (simp; done))) ?_; k_whole) | (refine' truthy_known false (by k_asm) (by k_mem) (by (first | assumption | exact Nat.le_of_ble_eq_true rfl)) (by rfl) ?_; k_whole)); intro k9); (try (revert k9; intros)))
  k_with "ite" => (k_closed; k_dflt (first | refine ite_pos (by decide +kernel) ?_ | refine ite_neg (by decide +kernel) ?_))
  k_with "exec For Name Call cons nil" => (k_here; (with_reducible show wpAny _ _ (exec (Stmt.For _ _ _ _ _) _) _ _ _); refine Stop.go ?_)
  k_with "pyIter ref" => (k_here; (with_reducible show wpAny _ _ (pyIter _) (fun _ _ => LoopAtV _ _ _ _ _ _ _ _ _ _ _) _ _); refine Stop.go ?_)
  k_with "call builtin:len" => ((k_here; (with_reducible show wpAny _ _ (call (Value.builtin "len") [Value.ref _]) _ _ _); k_dflt (refine' len_list_is (by first | assumption | exact Fr.lst (by assumption) (by assumption)) (by assumption) (by omega) ?_; k_whole); intro t9 k9); (try (revert t9 k9; intros)))
  k_with "compareOp In int ref" => (k_here; k_dflt (refine' in_list_ints (by is_list) (by assumption) ?_; k_whole))
  k_with "subscriptTail Name BinOp ref int" => (k_here; k_dflt (refine' item_pred (by is_list) (by assumption) (by omega) ?_; k_whole))
  k_with "binaryOp Add ref ref" => ((k_here; k_dflt (refine' add_ints_K (by k_asm) (by k_asm) (by k_mem) (by k_mem) (by assumption) (by omega) ?_; k_whole); intro D' h' ws' F' N' hI'); (try (revert D' h' ws' F' N' hI'; intros)))
  k_with "exec Assign cons ListComp" => (k_here; lct_look; k_dflt (refine LCt.Assign_ListComp_T (F₀ := by k_asm) (by rfl) (by with_unfolding_all rfl) (by with_unfolding_all rfl) (by decide) (by rfl) (by decide) (by rfl) (by rfl) (by rfl) ?_); k_dflt lct_toSrc)
  k_with "subscriptTail Name Name ref int" => (k_here; k_dflt (refine' item_nat_list (by is_list) (by assumption) (by omega) ?_; k_whole))
  k_with "compareOp In none ref" => (k_here; k_dflt (refine' in_disp (by is_list) (by assumption) ?_; k_whole))
  k_with "compareOp In str ref" => (k_here; k_dflt (refine' in_disp (by is_list) (by assumption) ?_; k_whole))
  k_with "mine use80" => (refine wpAny_call ?_; (refine' use0 (d := 380) (u := 800) ?B ?F ?X ?T ?hA ?hf ?hk ?hh ?hd ?hu ?_; (case B => k_asm); (case F => k_asm); (case X => k_asm); (case T => k_asm); (case hA => exact rfl); (case hf => exact rfl); (case hk => exact rfl); (case hh => exact rfl); (case hd => exact Nat.le_of_ble_eq_true rfl); (case hu => exact Nat.le_of_ble_eq_true rfl)))
  k_with "call builtin:iter" => ((k_here; (with_reducible show wpAny _ _ (call (Value.builtin "iter") [Value.str _ _]) _ _ _); k_dflt (refine' iter_str_K (by k_asm) (by k_asm) (by assumption) ?_; k_whole); intro I9 h9 F9 N9 l9 f9; (try k_lt l9)); (try (revert I9 h9 F9 N9 l9 f9; intros)))
  k_with "compareOp Is ref ref" => (k_here; (with_reducible show wpAny _ _ (compareOp CmpOp.Is (Value.ref _) (Value.ref _)) _ _ _); k_dflt (refine' is_list_other (by is_list) (by kto_obj) (by assumption) ?_; k_whole))
  k_with "mine use70" => (refine wpAny_call ?_; (refine' use0 (d := 370) (u := 700) ?B ?F ?X ?T ?hA ?hf ?hk ?hh ?hd ?hu ?_; (case B => k_asm); (case F => k_asm); (case X => k_asm); (case T => k_asm); (case hA => exact rfl); (case hf => exact rfl); (case hk => exact rfl); (case hh => exact rfl); (case hd => exact Nat.le_of_ble_eq_true rfl); (case hu => exact Nat.le_of_ble_eq_true rfl)))
  k_with "mine use60" => (refine wpAny_call ?_; (refine' use0 (d := 360) (u := 600) ?B ?F ?X ?T ?hA ?hf ?hk ?hh ?hd ?hu ?_; (case B => k_asm); (case F => k_asm); (case X => k_asm); (case T => k_asm); (case hA => exact rfl); (case hf => exact rfl); (case hk => exact rfl); (case hh => exact rfl); (case hd => exact Nat.le_of_ble_eq_true rfl); (case hu => exact Nat.le_of_ble_eq_true rfl)))
  k_with "mine use50" => (refine wpAny_call ?_; (refine' use0 (d := 350) (u := 500) ?B ?F ?X ?T ?hA ?hf ?hk ?hh ?hd ?hu ?_; (case B => k_asm); (case F => k_asm); (case X => k_asm); (case T => k_asm); (case hA => exact rfl); (case hf => exact rfl); (case hk => exact rfl); (case hh => exact rfl); (case hd => exact Nat.le_of_ble_eq_true rfl); (case hu => exact Nat.le_of_ble_eq_true rfl)))
  k_with "eval Name" => (k_here; kc_free; k_dflt (refine' nameX_old (by k_asm) (by rfl) (by assumption) ?_ (by rfl) (by rfl); k_whole))
  k_with "call builtin:iter" => ((k_here; (with_reducible show wpAny _ _ (call (Value.builtin "iter") [Value.ref _]) _ _ _); k_dflt (refine' iter_list_K (by k_asm) (by k_asm) (by is_list) ?_; k_whole); intro I9 h9 F9 N9 l9 f9; (try k_lt l9)); (try (revert I9 h9 F9 N9 l9 f9; intros)))
  k_with "exec For Name Name cons nil" => (k_here; (with_reducible show wpAny _ _ (exec (Stmt.For _ _ _ _ _) _) _ _ _); refine Stop.go ?_)
  k_with "callWith ref" => (k_here; (with_reducible show wpAny _ _ (callWith _ (Value.ref _) _ (backTo _ (starEach (_ :: _) _)) []) _ _ _); k_dflt (refine' callWith_F (by exact fnAt_kept (by k_asm) (by assumption)) ?_; k_whole))
  k_with "And" => ((with_reducible show FnAt _ _ ∧ _); k_dflt (refine ⟨fnAt_kept (by k_asm) (by assumption), ?_⟩); (try dsimp only [List.nil_append, List.cons_append]))
  k_with "call ref" => (k_here; (with_reducible show wpAny _ _ (call (Value.ref _) [Value.int _ _, Value.ref _]) _ _ _); refine Stop.go ?_)
  k_with "compareOp Is int ref" => (k_here; (with_reducible show wpAny _ _ (compareOp CmpOp.Is (Value.int _ _) (Value.ref _)) _ _ _); refine wpAny_is_other (by rfl) (by intro x; cases x) ?_)
  k_with "call ref" => (k_here; (with_reducible show wpAny _ _ (call (Value.ref 90) [Value.ref 130]) _ _ _); refine Stop.go ?_)
  k_with "CompSrcT" => (k_here; refine Stop.go ?_)
  k_with "CompEnd" => (k_here; refine Stop.go ?_)
  k_with "eval ListComp" => (k_here; (with_reducible show wpAny _ _ (eval (PySem.Expr.ListComp _ [⟨PySem.Expr.Tuple _ _ _, _, _, _⟩] _ _) _) _ _ _); refine Stop.go ?_)
  k_with "call ref" => (k_here; (with_reducible show wpAny _ _ (call (Value.ref _) _) _ _ _); refine Stop.go ?_)
  k_with "CompSrc" => (k_here; refine Stop.go ?_)
  k_with "mine use90" => (refine wpAny_call ?_; (refine' use0 (d := 390) (u := 900) ?B ?F ?X ?T ?hA ?hf ?hk ?hh ?hd ?hu ?_; (case B => k_asm); (case F => k_asm); (case X => k_asm); (case T => k_asm); (case hA => exact rfl); (case hf => exact rfl); (case hk => exact rfl); (case hh => exact rfl); (case hd => exact Nat.le_of_ble_eq_true rfl); (case hu => exact Nat.le_of_ble_eq_true rfl)))
  k_with "call ref" => ((k_here; (with_reducible show wpAny _ _ (call (Value.ref 104) [Value.int _ _]) _ _ _); k_dflt (walk_at "mine use90"; intro B9 X9 T9; (refine' pattern_spec _ _ _ _ _ _ _ callerA _ _ _ B9 X9 T9 ?_); clear B9 X9 T9; intro t9 h9 tk9 x9; (have F9 := Fr.keeps (by k_asm) x9); (have N9 := News.keeps (by k_asm) x9); clear x9; (try dsimp only); (try k_sweep))); (try (revert t9 h9 tk9 F9 N9; intros)))
  k_with "call builtin:str.replace" => (k_here; refine Stop.go ?_)
  k_with "eval Lambda" => ((k_here; kn_here; k_dflt (refine' kla_eval (by exact rfl) ?_); (k_dflt (refine' kla_nest2r (by k_asm) (by k_asm) (by k_asm) (by exact rfl) (by kn_code) (by k_updF) (by kn_triples) (by kn_among) (by exact rfl) ?_; k_whole); intro f' c' P' oc' vs' t' ct' h' tk' F' N' d1' d2' l1 lP l2 l3 ob1 ob2; (try dsimp only at N'); (try k_lt l1); (try k_lt lP); (try k_lt2 l2); (try k_lt2 l3))); (try (revert f' c' P' oc' vs' t' ct' h' tk' F' N' d1' d2' l1 lP l2 l3 ob1 ob2; intros)))
  k_with "exec Assign cons ListComp" => (k_here; (with_reducible show wpAny _ _ (exec (PySem.Stmt.Assign [PySem.Expr.Name _ _] (PySem.Expr.ListComp _ [⟨PySem.Expr.Name _ _, PySem.Expr.Call _ _ _ _, [], _⟩] _ _) _) _) _ _ _); k_dflt (refine LCg.Assign_ListComp_U (F₀ := by k_asm) (by rfl) (by with_unfolding_all rfl) (by with_unfolding_all rfl) (by decide) (by rfl) (by decide) (by rfl) (by rfl) (by rfl) ?_); (try k_dflt lcg_toSrc))
  k_with "call builtin:dict.get" => (k_here; refine Stop.go ?_)
  k_with "exec Assign" => (k_here; refine Stop.go ?_)
  k_with "mine ne" => (first | exact Ne.symm (And.left (by with_reducible assumption)) | exact Ne.symm (And.left (And.right (by with_reducible assumption))) | exact Ne.symm (And.left (And.right (And.right (by with_reducible assumption)))) | exact Ne.symm (And.left (And.right (And.right (And.right (by with_reducible assumption))))) | exact Ne.symm (And.left (And.right (And.right (And.right (And.right (by with_reducible assumption)))))) | exact Ne.symm (And.left (And.right (And.right (And.right (And.right (And.right (by with_reducible assumption))))))) | exact Ne.symm (And.left (And.right (And.right (And.right (And.right (And.right (And.right (by with_reducible assumption)))))))) | exact Ne.symm (And.left (And.right (And.right (And.right (And.right (And.right (And.right (And.right (by with_reducible assumption))))))))) | exact Ne.symm (And.left (And.right (And.right (And.right (And.right (And.right (And.right (And.right (And.right (by with_reducible assumption)))))))))) | exact Ne.symm (And.left (And.right (And.right (And.right (And.right (And.right (And.right (And.right (And.right (And.right (by with_reducible assumption))))))))))) | exact Nat.ne_of_gt (And.left (by with_reducible assumption)) | exact Nat.ne_of_gt (And.left (And.right (by with_reducible assumption))) | exact Nat.ne_of_gt (And.left (And.right (And.right (by with_reducible assumption)))) | exact Nat.ne_of_gt (And.left (And.right (And.right (And.right (by with_reducible assumption))))) | exact Nat.ne_of_gt (And.left (And.right (And.right (And.right (And.right (by with_reducible assumption)))))) | exact Nat.ne_of_gt (And.left (And.right (And.right (And.right (And.right (And.right (by with_reducible assumption))))))) | exact Nat.ne_of_gt (And.left (And.right (And.right (And.right (And.right (And.right (And.right (by with_reducible assumption)))))))) | exact Nat.ne_of_gt (And.left (And.right (And.right (And.right (And.right (And.right (And.right (And.right (by with_reducible assumption))))))))) | exact Nat.ne_of_gt (And.left (And.right (And.right (And.right (And.right (And.right (And.right (And.right (And.right (by with_reducible assumption)))))))))) | exact Nat.ne_of_gt (And.left (And.right (And.right (And.right (And.right (And.right (And.right (And.right (And.right (And.right (by with_reducible assumption))))))))))))
  trivial
theorem law_tail2 : ∀ (w : World) (mean : ExcName → Option Value) (mg mb : Str → Option Value) (stmts : List Stmt) (esc : Scope) (L' nl D9 fo9 cc9 P9 ol9 nl9 ls tl Ds : Addr) (ws9 ys os9 zs us : List Value) (xs : List Int) (or9 of9 on9 okn oc9 oo2 : Obj) (kr4 : List (Addr × Obj))
    (base g : Heap) (s : Shared) (Q : Flow → Shared → Prop) (E : Value → Shared → Prop)
    (hE : lawAt w.params 6 = some (stmts, esc))
    (F1 : Fr g L' s.heap (fun y => if y = Str.ofString "single" then some (Value.ref Ds) else if y = Str.ofString "told" then some (.ref tl) else if y = Str.ofString "script" then some (Value.ref ls) else none)) (N1 : News g L' s.heap ((Ds, LCg.lst us) :: (tl, LCg.lst zs) :: (L' + 1 + 1 + 1 + 1, oo2) :: kr4))
    (TT : Tail2 [L' + 1 + 1 + 1 + 1] w L' nl D9 fo9 cc9 P9 ol9 nl9 ws9 ys os9 xs or9 of9 on9 okn oc9 kr4) (TB : TabsIn kr4) (hT : ToldIn kr4 zs 7 (fun k => Vof (xs.map ruleOf).reverse (nm7 (6 - k)) xs.length))
    (nt : @Ne Nat (L' + 1 + 1 + 1 + 1) tl) (ns : @Ne Nat (L' + 1 + 1 + 1 + 1) Ds) (dr9 : or9.data = .cell (some (.ref D9))) (dn9 : on9.data = .cell (some (.ref nl))) (dkn : okn.data = .cell (some (.ref nl9))) (doo2 : oo2.data = .cell none) (hI9 : IntsAre ws9 xs) (hxl : 0 < xs.length ∧ xs.length ≤ 6)
    (hS : SinAre xs us xs.length)
    (B : Below (AA 305 50 []) base [] g) (X : (Mine.heap39 w.params).In g) (T : Top topProg looseG mean mg mb g)
    (hQ : ∀ h' tk', (∀ b o, g.get? b = some o → h'.get? b = some o) → TabsNow h' → Q (.ret (.bool true)) { s with heap := h', toks := tk' }),
    wpAny (model PySem.Challenge.rw_in0045_01.row.prog w) ((AA 305 50 []).deeper (envOfC (Str.ofString "law") esc L' 147 (.ref 146))) (execs stmts (envOfC (Str.ofString "law") esc L' 147 (.ref 146))) Q E s := by
  k_fill
  intro w mean mg mb stmts esc L' nl D9 fo9 cc9 P9 ol9 nl9 ls tl Ds ws9 ys os9 zs us xs or9 of9 on9 okn oc9 oo2 kr4 base g s Q E hE F1 N1 TT TB hT nt ns dr9 dn9 dkn doo2 hI9 hxl hS B X T hQ
  have hC : CodeHd g 146 144 := codeHd_of_K X (by kernel_rfl)
  cases hE
  have mkn := TT.cnum
  have mnl := TT.nums
  have mcr := TT.crules
  have mrl := TT.rlist
  have hyl : ys.length = xs.length := by rw [TT.rules.length, List.length_map]
  repeat' (first | walk1 | (dsimp only; walk1))
  refine Stop.out ?_
  refine' comp_pairsL (ct := none) (h₀ := g) (L := L') (m := fun y => if y = Str.ofString "single" then some (Value.ref Ds) else if y = Str.ofString "told" then some (.ref tl) else if y = Str.ofString "script" then some (Value.ref ls) else none) ?hclos ?hcell ?hkind ?hnames ?hxa ?hxb ?hab ?_
  (case hclos => with_unfolding_all rfl)
  (case hcell => decide)
  (case hkind => rfl)
  (case hnames => decide)
  (case hxa => rfl)
  (case hxb => rfl)
  (case hab => decide)
  walk1
  obtain ⟨nw0, hnw⟩ : ∃ nw, nw = (Ds, LCg.lst us) :: (tl, LCg.lst zs) :: (L' + 1 + 1 + 1 + 1, oo2) :: kr4 := ⟨_, rfl⟩
  have hR0 : RulesIn nw0 ys (xs.map ruleOf) := TT.rules.more fun p hp => by rw [hnw]; exact .tail _ (.tail _ (.tail _ hp))
  have mrl0 : (D9, LCg.lst ys) ∈ nw0 := by rw [hnw]; exact .tail _ (.tail _ (.tail _ mrl))
  have mcr0 : (L' + 1 + 1 + 1 + 1 + 1, or9) ∈ nw0 := by rw [hnw]; exact .tail _ (.tail _ (.tail _ mcr))
  rw [← hnw] at N1
  refine ⟨D9, ys.toArray, nw0, fun i vs nw => nw = nw0 ∧ ListsIn nw0 vs (((xs.map ruleOf).take i).map ruleD), fun i x y => ∃ r lp vs n2, (xs.map ruleOf)[i]? = some r ∧ y = .ref lp ∧ (lp, lobj vs n2) ∈ nw0 ∧ PAre vs.toList r.2, rfl, rfl, F1, N1, Or.inr ⟨_, mrl0, rfl, _, rfl⟩, ?sz, ⟨rfl, .nil⟩, ?it, ?turn, ?fin⟩
  (case sz => exact small_line (by rw [List.size_toArray, hyl]; omega))
  (case it =>
    rintro i v vs nw hv ⟨rfl, _⟩
    obtain ⟨r, hr, a, t, lp, vs2, n, n2, rfl, m1, m2, hp, _⟩ := hR0.get (i := i) (v := v) (by simpa using hv)
    exact ⟨a, n, _, _, rfl, m1, r, lp, vs2, n2, hr, rfl, m2, hp⟩)
  (case turn =>
    rintro i vs nw I oI C oC D m₂ x y h tk E' hi ⟨rfl, hL⟩ ⟨r, lp, vs2, n2, hr, rfl, m2, hp⟩ hC' hxa hxb F2 N2 off ne
    show wpAny _ _ (eval _ _) _ _ _
    repeat' (first | walk1 | (dsimp only; walk1))
    refine Stop.out ?_
    refine' LCg.CompEnd.intro F2 N2 _ ?sb2 off ?Sr2 ⟨rfl, ?hL2⟩
    (case sb2 => exact fun p hp => hp)
    (case Sr2 => exact Or.inr ⟨_, mrl0, rfl, _, rfl⟩)
    (case hL2 =>
      rw [take_map_succ hr]
      exact hL.snoc ⟨lp, _, vs2, n2, rfl, m2, rfl, rfl, hp.carried⟩))
  (case fin =>
    rintro vs nw ⟨rfl, hL⟩
    rw [show (List.map ruleOf xs).take ys.toArray.size = List.map ruleOf xs by rw [List.size_toArray, hyl]; exact List.take_of_length_le (by rw [List.length_map]; exact Nat.le_refl _)] at hL
    repeat' (first | walk1 | (dsimp only; walk1))
    refine Stop.out ?_
    rename_i D8 h8 tk8 F8 N8 o8
    have mus : (Ds, LCg.lst us) ∈ nw := by rw [hnw]; exact .head _
    refine' LCg.CompSrc.ledger rfl ?F0 ?N0 ?l0 ?z0 ?_
    (case F0 => exact F8)
    (case N0 => exact N8)
    (case l0 => exact .tail _ mus)
    (case z0 => exact small_line (by rw [List.size_toArray, hS.1]; omega))
    intro gg
    rw [show us.toArray.size = xs.length by rw [List.size_toArray, hS.1]]
    refine rest_ind xs.length (fun i ys' nw' => ∃ kr, nw' = (D8, LCg.lst vs) :: kr ∧ (∀ p ∈ nw, p ∈ kr) ∧ ListsIn kr ys' ((xs.take i).map fun z => (sng z).cps.toList.map cd)) ?turn2 ?fin2 xs.length 0 [] _ rfl ⟨_, rfl, fun p hp => hp, .nil⟩
    (case turn2 =>
      rintro i ys' nw' v I oI C oC D m₂ h tk E' hi ⟨kr, rfl, hsub, hL2⟩ hPv hC' hx F2 N2 off ne
      have hz : xs[i]? = some xs[i] := List.getElem?_eq_getElem hi
      obtain ⟨t, hv1⟩ := hS.2 i xs[i] hi hz
      generalize xs[i] = z at hv1 hz
      have hvv : v = .str (sng z) t := by
        have hP' : us[i]? = some v := by simpa using hPv
        rw [hv1] at hP'; exact (Option.some.inj hP').symm
      subst hvv
      clear hPv
      dsimp only
      refine' comp_signs (h₀ := g) (L := L') (m := fun y => if y = Str.ofString "single" then some (Value.ref Ds) else if y = Str.ofString "told" then some (Value.ref tl) else if y = Str.ofString "script" then some (Value.ref ls) else none) ?hclos ?hcell ?hkind ?hnames ?hx ?_
      (case hclos => with_unfolding_all rfl)
      (case hcell => decide)
      (case hkind => rfl)
      (case hnames => decide)
      (case hx => rfl)
      walk1
      obtain ⟨nw2, hnw2⟩ : ∃ nw, nw = (I, oI) :: (C, oC) :: (D, LCg.lst ys') :: (D8, LCg.lst vs) :: kr := ⟨_, rfl⟩
      rw [← hnw2] at N2
      refine ⟨sng z, t, nw2, fun i ds nw => nw = nw2 ∧ CarriedAll ds (((sng z).cps.toList.take i).map cd), rfl, sng_ascii z, rfl, F2, N2, small_line (by have := sng_size z; omega), ⟨rfl, .nil⟩, ?turn3, ?fin3⟩
      (case turn3 =>
        rintro i3 ds nw c u I3 oI3 C3 oC3 D3 m3 h3 tk3 E3 hi3 ⟨rfl, hD⟩ hc3 hC3 hx3 F3 N3 off3 ne3
        have hc4 : c = 97 ∨ c = 98 ∨ c = 63 ∨ c = 42 := (sng_signs z).2.1 c (by
          rw [Array.mem_toList_iff]
          exact Array.mem_of_getElem? hc3)
        have hfin : ∀ (v : Value) (h4 : Heap) (tk4 : Nat), Carried v (cd c) → Fr g L' h4 (fun y => if y = Str.ofString "single" then some (Value.ref Ds) else if y = Str.ofString "told" then some (Value.ref tl) else if y = Str.ofString "script" then some (Value.ref ls) else none) → News g L' h4 ((I3, oI3) :: (C3, oC3) :: (D3, LCg.lst ds) :: nw) → CompEnd g L' (fun y => if y = Str.ofString "single" then some (Value.ref Ds) else if y = Str.ofString "told" then some (Value.ref tl) else if y = Str.ofString "script" then some (Value.ref ls) else none) { heap := h4, gens := s.gens, drawn := s.drawn, toks := tk4, os := s.os } I3 oI3 C3 oC3 D3 (LCg.lst ds) (fun _ => True) (fun y news' => news' = nw ∧ CarriedAll (ds ++ [y]) (((sng z).cps.toList.take (i3 + 1)).map cd)) v { heap := h4, gens := s.gens, drawn := s.drawn, toks := tk4, os := s.os } := by
          intro v h4 tk4 hv F4 N4
          refine' LCg.CompEnd.intro F4 N4 _ ?sb2 off3 trivial ⟨rfl, ?hL2⟩
          (case sb2 => exact fun p hp => hp)
          (case hL2 =>
            rw [take_map_succ (x := c) (by simpa using hc3)]
            exact CarriedAll.snoc' hD hv)
        clear hc3 hD hi3
        dsimp only at hfin ⊢
        iterate 13 (first | walk1 | (dsimp only; walk1) | skip)
        (try dsimp only)
        repeat' (first | walk1 | (dsimp only; walk1))
        refine Stop.out ?_
        rename_i h5 o5 F5 N5 lo5 hd5 hf5 ap5 l5
        (try dsimp only at hd5 hf5)
        refine get_sign hc4 N5 lo5 hd5 hf5 ?_
        intro v hv
        repeat' (first | walk1 | (dsimp only; walk1))
        refine Stop.out ?_
        exact hfin v _ _ hv F5 fun p hp => N5 p (.tail _ hp))
      (case fin3 =>
        rintro ds nw ⟨rfl, hD⟩
        rw [show (sng z).cps.toList.take (sng z).cps.size = (sng z).cps.toList by rw [← Array.length_toList]; exact List.take_length] at hD
        intro D3 h3 tk3 F3 N3 off3
        rw [hnw2] at off3 N3
        refine' LCg.CompEnd.intro F3 (News.sub N3 (n2 := (I, oI) :: (C, oC) :: (D, LCg.lst ys') :: (D3, LCg.lst ds) :: (D8, LCg.lst vs) :: kr) ?sb3) ((D8, LCg.lst vs) :: (D3, LCg.lst ds) :: kr) ?sb4 ?of4 ?Sr4 ⟨_, rfl, fun p hp => .tail _ (hsub p hp), ?hL4⟩
        (case sb3 =>
          (repeat' refine List.forall_mem_cons.mpr ⟨by first | exact .head _ | exact .tail _ (.head _) | exact .tail _ (.tail _ (.head _)) | exact .tail _ (.tail _ (.tail _ (.head _))) | exact .tail _ (.tail _ (.tail _ (.tail _ (.head _)))), ?_⟩)
          exact fun p hp => .tail _ (.tail _ (.tail _ (.tail _ (.tail _ hp)))))
        (case sb4 =>
          (repeat' refine List.forall_mem_cons.mpr ⟨by first | exact .head _ | exact .tail _ (.head _) | exact .tail _ (.tail _ (.head _)) | exact .tail _ (.tail _ (.tail _ (.head _))) | exact .tail _ (.tail _ (.tail _ (.tail _ (.head _)))), ?_⟩)
          exact fun p hp => .tail _ (.tail _ (.tail _ (.tail _ (.tail _ hp)))))
        (case of4 => exact ⟨off.1, ⟨off3.1.symm, off3.2.1.symm, off3.2.2.1.symm⟩, off.2⟩)
        (case Sr4 => exact Or.inr ⟨_, .tail _ (.tail _ (hsub _ mus)), rfl, _, rfl⟩)
        (case hL4 =>
          rw [take_map_succ hz]
          exact (hL2.more fun p hp => .tail _ hp).snoc ⟨D3, _, _, _, rfl, .head _, rfl, rfl, hD⟩)))
    (case fin2 =>
      rintro ys' nw' ⟨kr, rfl, hsub, hL2⟩
      rw [List.take_length] at hL2
      walk1
      rename_i D7 _ _ F7 N7 o7
      have hq : (xs.map fun z => (sng z).cps.toList.map cd) = (xs.map ruleOf).map ruleD := by
        rw [List.map_map]
        exact List.map_congr_left fun z _ => (sng_signs z).1.symm
      rw [hq] at hL2
      refine' ne_rows (L := L') (h₀ := g) N7 (.tail _ (.head _)) (.head _) (hL.more fun p hp => .tail _ (.tail _ (hsub p hp))) (hL2.more fun p hp => .tail _ (.tail _ hp)) ?flat ?hu ?_
      (case hu => exact Nat.le_of_ble_eq_true rfl)
      (case flat =>
        intro ds hd
        rw [List.map_map] at hd
        obtain ⟨z, _, rfl⟩ := List.mem_map.mp hd
        show ((trans (pat z).cps.toList).map partD).all flatD = true
        rw [(sng_signs z).1]; exact (sng_signs z).2.2)
      clear hL hL2 hq hR0
      have N9 := News.sub (n2 := nw) N7 fun p hp => .tail _ (.tail _ (hsub p hp))
      rw [hnw] at N9
      clear N7 N8 N1 F1 F8 o8 o7 hsub mus mrl0 mcr0
      subst hnw
      iterate 3 (first | walk1 | (dsimp only; walk1))
      refine law_tail3 w mean mg mb _ _ L' nl D9 fo9 cc9 P9 ol9 nl9 ls tl Ds ws9 ys os9 zs us xs or9 of9 on9 okn oc9 oo2 kr4 base g _ _ _ ?hE7 F7 N9 TT TB hT nt ns dr9 dn9 dkn doo2 hI9 hxl B X T (fun h' tk' k z => hQ h' tk' k z)
      (case hE7 => kernel_rfl)))
end
section
-- text N82
open PySem PySem.W PyProof.Rows PySem.Calls PyProof.Rows.LCg PyProof.Rows.LCt
set_option maxHeartbeats 8000000
theorem rows_N82 : True := by
  k_with_none
  k_with "mine sides0" => ((case k3 => k_asm); (case k5 => k_asm); (case k6 => k_is); (case k7 => k_is); (case k8 => exact Nat.le_of_ble_eq_true rfl); (case k9 => first | exact BindsTo.of_eq rfl | exact binds_K (by k_in) rfl (by k_is) rfl rfl rfl); (case c5 => decide); (case kB => exact locs rfl); (case c2 => exact rfl); (case c3 => exact rfl); (case c4 => exact rfl))
  k_with "mine sidesC" => ((case k3 => k_asm); (case k5 => k_asm); (case k6 => k_is); (case k7 => k_is); (case k8 => exact Nat.le_of_ble_eq_true rfl); (case k9 => first | exact BindsTo.of_eq rfl | exact binds_K (by k_in) rfl (by k_is) rfl rfl rfl); (case kB => exact rfl); (case kD => decide +kernel); (case c2 => exact rfl); (case c3 => exact rfl); (case c4 => exact rfl))
  k_with "mine enter0" => ((refine' enterS (by k_asm) (by k_asm) (by k_is) (by k_is) (by exact Nat.le_of_ble_eq_true rfl) (by first | exact BindsTo.of_eq rfl | exact binds_K (by k_in) rfl (by k_is) rfl rfl rfl) (by exact locs rfl) ?_ (by exact rfl) (by exact rfl) (by exact rfl) (by decide); k_whole; intro L' h' F' N'); (try (revert L' h' F' N'; intros)))
  k_with "mine enterC" => ((refine' enterSC (by k_asm) (by k_asm) (by k_is) (by k_is) (by exact Nat.le_of_ble_eq_true rfl) (by first | exact BindsTo.of_eq rfl | exact binds_K (by k_in) rfl (by k_is) rfl rfl rfl) (by exact rfl) (by decide +kernel) ?_ (by exact rfl) (by exact rfl) (by exact rfl); k_whole; intro L' h' tk' cells' F' N' Y'; k_cells Y'; (try simp only [List.cons_append, List.nil_append, List.append_nil] at N')); (try (revert L' h' tk' cells' F' N' Y'; intros)))
  k_with "eval ListComp" => (k_here; lcf_look; k_dflt (refine LCg.ListComp_U (F₀ := by k_asm) (by with_unfolding_all rfl) (by decide) (by rfl) (by decide) (by rfl) ?_); k_dflt lcg_toSrc)
  k_with "CompSrc" => (k_here; k_dflt (first | (refine LCg.CompSrc.ledger (by rfl) (by k_asm) (by k_asm) (by k_mem) (by first | size_fits | exact Nat.le_of_ble_eq_true rfl) ?_; intro g'; lcg_lit) | (refine LCg.CompSrc.base (by rfl) (by k_asm) (by k_asm) (by assumption) (by first | size_fits | exact Nat.le_of_ble_eq_true rfl) ?_; intro g'; lcg_lit) | (refine LCg.CompSrc.range (by rfl) (by k_asm) (by k_asm) (by assumption) (by first | decide | rfl) (by first | rfl | decide) (by first | size_fits | exact Nat.le_of_ble_eq_true rfl) ?_; intro g'; lcg_lit)))
  k_with "getMethod str" => ((with_reducible show wpAny _ _ (getMethod (Value.str _ _) (PySem.Str.ofString "translate") _) _ _ _); refine GM.of _ (typeIs_str _ _ _) F.slot_str_translate F.type_str_translate GM.noRef ?_)
  k_with "call builtin:str.translate" => ((k_here; k_dflt (refine' translate_K (by k_asm) (by k_asm) (by k_asm) (by k_is) (by decide +kernel) (by assumption) (by rfl) (by rfl) (by rename _ ∨ _ => hn9; rcases hn9 with e | e <;> (rw [e]; decide +kernel)) ?_; k_whole); intro t9 h9 tk9 F9 N9); (try (revert t9 h9 tk9 F9 N9; intros)))
  k_with "getAttr ref" => ((k_here; (with_reducible show wpAny _ _ (getAttr (Value.ref _) (PySem.Str.ofString "append") _) _ _ _); k_dflt (refine' getAttr_append_K (by k_asm) (by k_asm) (by k_mem) ?_; k_whole); intro u' h' tk' F' N' l1; (try k_lt l1); (try k_sweep)); (try (revert u' h' tk' F' N' l1; intros)))
  k_with "callWith ref" => (k_here; (with_reducible show wpAny _ _ (callWith _ (Value.ref _) _ (backTo _ (starEach (_ :: _) _)) []) _ _ _); k_dflt (refine' callWith_bnd_K (by k_asm) (by k_mem) ?_; k_whole))
  k_with "And" => ((with_reducible show BndAt _ _ _ _ ∧ _); k_dflt (refine ⟨bndAt_of (by k_asm) (by k_mem), ?_⟩); (try dsimp only [List.nil_append, List.cons_append]))
  k_with "call ref" => ((k_here; k_dflt (refine' call_bnd_append_K (by k_asm) (by k_asm) (by k_mem) (by k_updF) (by first | assumption | size_fits | exact Nat.le_of_ble_eq_true rfl) ?_; k_whole); intro h' F' N'; (try dsimp only at N'); (try k_sweep)); (try (revert h' F' N'; intros)))
  k_with "exec While Compare cons nil" => (k_here; (with_reducible show wpAny _ _ (exec (Stmt.While _ _ _ _) _) _ _ _); refine Stop.go ?_)
  k_with "call builtin:len" => ((k_here; (with_reducible show wpAny _ _ (call (Value.builtin "len") [Value.str (Str.mk _) _]) _ _ _); (first | refine len_known 3 rfl rfl ?_ | refine len_known 2 rfl rfl ?_ | refine len_known 1 rfl rfl ?_ | refine len_known 0 rfl rfl ?_); intro t9 k9); (try (revert t9 k9; intros)))
  k_with "subscriptTail Name Name str int" => ((k_here; (with_reducible show wpAny _ _ (subscriptTail _ _ (Value.str _ _) (Value.int _ _)) _ _ _); k_dflt (refine' item_at (by assumption) (by omega) ?_; k_whole); intro t9 k9); (try (revert t9 k9; intros)))
  k_with "subscriptTail" => (k_here; (with_reducible show wpAny _ _ (subscriptTail _ _ (Value.ref _) (Value.int (-1) _)) _ _ _); k_dflt (refine' item_last (by k_asm) (by k_mem) (by omega) ?_; k_whole))
  k_with "truthy ref" => ((k_here; (with_reducible show wpAny _ _ (truthy (Value.ref _)) _ _ _); k_dflt (first | (refine' truthy_known true (by k_asm) (by k_mem) (by (first | assumption | exact Nat.le_of_ble_eq_true rfl | (simp only [Array.size_push]; omega))) (by (first | rfl | (simp; done))) ?_; k_whole) | (refine' truthy_known false (by k_asm) (by k_mem) (by (first | assumption | exact Nat.le_of_ble_eq_true rfl)) (by rfl) ?_; k_whole)); intro k9); (try (revert k9; intros)))
  k_with "ite" => (k_closed; k_dflt (first | refine ite_pos (by decide +kernel) ?_ | refine ite_neg (by decide +kernel) ?_))
  k_with "exec For Name Call cons nil" => (k_here; (with_reducible show wpAny _ _ (exec (Stmt.For _ _ _ _ _) _) _ _ _); refine Stop.go ?_)
  k_with "pyIter ref" => (k_here; (with_reducible show wpAny _ _ (pyIter _) (fun _ _ => LoopAtV _ _ _ _ _ _ _ _ _ _ _) _ _); refine Stop.go ?_)
  k_with "call builtin:len" => ((k_here; (with_reducible show wpAny _ _ (call (Value.builtin "len") [Value.ref _]) _ _ _); k_dflt (refine' len_list_is (by first | assumption | exact Fr.lst (by assumption) (by assumption)) (by assumption) (by omega) ?_; k_whole); intro t9 k9); (try (revert t9 k9; intros)))
  k_with "compareOp In int ref" => (k_here; k_dflt (refine' in_list_ints (by is_list) (by assumption) ?_; k_whole))
  k_with "subscriptTail Name BinOp ref int" => (k_here; k_dflt (refine' item_pred (by is_list) (by assumption) (by omega) ?_; k_whole))
  k_with "binaryOp Add ref ref" => ((k_here; k_dflt (refine' add_ints_K (by k_asm) (by k_asm) (by k_mem) (by k_mem) (by assumption) (by omega) ?_; k_whole); intro D' h' ws' F' N' hI'); (try (revert D' h' ws' F' N' hI'; intros)))
  k_with "exec Assign cons ListComp" => (k_here; lct_look; k_dflt (refine LCt.Assign_ListComp_T (F₀ := by k_asm) (by rfl) (by with_unfolding_all rfl) (by with_unfolding_all rfl) (by decide) (by rfl) (by decide) (by rfl) (by rfl) (by rfl) ?_); k_dflt lct_toSrc)
  k_with "subscriptTail Name Name ref int" => (k_here; k_dflt (refine' item_nat_list (by is_list) (by assumption) (by omega) ?_; k_whole))
  k_with "compareOp In none ref" => (k_here; k_dflt (refine' in_disp (by is_list) (by assumption) ?_; k_whole))
  k_with "compareOp In str ref" => (k_here; k_dflt (refine' in_disp (by is_list) (by assumption) ?_; k_whole))
  k_with "mine use80" => (refine wpAny_call ?_; (refine' use0 (d := 380) (u := 800) ?B ?F ?X ?T ?hA ?hf ?hk ?hh ?hd ?hu ?_; (case B => k_asm); (case F => k_asm); (case X => k_asm); (case T => k_asm); (case hA => exact rfl); (case hf => exact rfl); (case hk => exact rfl); (case hh => exact rfl); (case hd => exact Nat.le_of_ble_eq_true rfl); (case hu => exact Nat.le_of_ble_eq_true rfl)))
  k_with "call builtin:iter" => ((k_here; (with_reducible show wpAny _ _ (call (Value.builtin "iter") [Value.str _ _]) _ _ _); k_dflt (refine' iter_str_K (by k_asm) (by k_asm) (by assumption) ?_; k_whole); intro I9 h9 F9 N9 l9 f9; (try k_lt l9)); (try (revert I9 h9 F9 N9 l9 f9; intros)))
  k_with "compareOp Is ref ref" => (k_here; (with_reducible show wpAny _ _ (compareOp CmpOp.Is (Value.ref _) (Value.ref _)) _ _ _); k_dflt (refine' is_list_other (by is_list) (by kto_obj) (by assumption) ?_; k_whole))
  k_with "mine use70" => (refine wpAny_call ?_; (refine' use0 (d := 370) (u := 700) ?B ?F ?X ?T ?hA ?hf ?hk ?hh ?hd ?hu ?_; (case B => k_asm); (case F => k_asm); (case X => k_asm); (case T => k_asm); (case hA => exact rfl); (case hf => exact rfl); (case hk => exact rfl); (case hh => exact rfl); (case hd => exact Nat.le_of_ble_eq_true rfl); (case hu => exact Nat.le_of_ble_eq_true rfl)))
  k_with "mine use60" => (refine wpAny_call ?_; (refine' use0 (d := 360) (u := 600) ?B ?F ?X ?T ?hA ?hf ?hk ?hh ?hd ?hu ?_; (case B => k_asm); (case F => k_asm); (case X => k_asm); (case T => k_asm); (case hA => exact rfl); (case hf => exact rfl); (case hk => exact rfl); (case hh => exact rfl); (case hd => exact Nat.le_of_ble_eq_true rfl); (case hu => exact Nat.le_of_ble_eq_true rfl)))
  k_with "mine use50" => (refine wpAny_call ?_; (refine' use0 (d := 350) (u := 500) ?B ?F ?X ?T ?hA ?hf ?hk ?hh ?hd ?hu ?_; (case B => k_asm); (case F => k_asm); (case X => k_asm); (case T => k_asm); (case hA => exact rfl); (case hf => exact rfl); (case hk => exact rfl); (case hh => exact rfl); (case hd => exact Nat.le_of_ble_eq_true rfl); (case hu => exact Nat.le_of_ble_eq_true rfl)))
  k_with "eval Name" => (k_here; kc_free; k_dflt (refine' nameX_old (by k_asm) (by rfl) (by assumption) ?_ (by rfl) (by rfl); k_whole))
  k_with "call builtin:iter" => ((k_here; (with_reducible show wpAny _ _ (call (Value.builtin "iter") [Value.ref _]) _ _ _); k_dflt (refine' iter_list_K (by k_asm) (by k_asm) (by is_list) ?_; k_whole); intro I9 h9 F9 N9 l9 f9; (try k_lt l9)); (try (revert I9 h9 F9 N9 l9 f9; intros)))
  k_with "exec For Name Name cons nil" => (k_here; (with_reducible show wpAny _ _ (exec (Stmt.For _ _ _ _ _) _) _ _ _); refine Stop.go ?_)
  k_with "callWith ref" => (k_here; (with_reducible show wpAny _ _ (callWith _ (Value.ref _) _ (backTo _ (starEach (_ :: _) _)) []) _ _ _); k_dflt (refine' callWith_F (by exact fnAt_kept (by k_asm) (by assumption)) ?_; k_whole))
  k_with "And" => ((with_reducible show FnAt _ _ ∧ _); k_dflt (refine ⟨fnAt_kept (by k_asm) (by assumption), ?_⟩); (try dsimp only [List.nil_append, List.cons_append]))
  k_with "call ref" => (k_here; (with_reducible show wpAny _ _ (call (Value.ref _) [Value.int _ _, Value.ref _]) _ _ _); refine Stop.go ?_)
  k_with "compareOp Is int ref" => (k_here; (with_reducible show wpAny _ _ (compareOp CmpOp.Is (Value.int _ _) (Value.ref _)) _ _ _); refine wpAny_is_other (by rfl) (by intro x; cases x) ?_)
  k_with "call ref" => (k_here; (with_reducible show wpAny _ _ (call (Value.ref 90) [Value.ref 130]) _ _ _); refine Stop.go ?_)
  k_with "CompSrcT" => (k_here; refine Stop.go ?_)
  k_with "CompEnd" => (k_here; refine Stop.go ?_)
  k_with "eval ListComp" => (k_here; (with_reducible show wpAny _ _ (eval (PySem.Expr.ListComp _ [⟨PySem.Expr.Tuple _ _ _, _, _, _⟩] _ _) _) _ _ _); refine Stop.go ?_)
  k_with "call ref" => (k_here; (with_reducible show wpAny _ _ (call (Value.ref _) _) _ _ _); refine Stop.go ?_)
  k_with "CompSrc" => (k_here; refine Stop.go ?_)
  k_with "mine use90" => (refine wpAny_call ?_; (refine' use0 (d := 390) (u := 900) ?B ?F ?X ?T ?hA ?hf ?hk ?hh ?hd ?hu ?_; (case B => k_asm); (case F => k_asm); (case X => k_asm); (case T => k_asm); (case hA => exact rfl); (case hf => exact rfl); (case hk => exact rfl); (case hh => exact rfl); (case hd => exact Nat.le_of_ble_eq_true rfl); (case hu => exact Nat.le_of_ble_eq_true rfl)))
  k_with "call ref" => ((k_here; (with_reducible show wpAny _ _ (call (Value.ref 104) [Value.int _ _]) _ _ _); k_dflt (walk_at "mine use90"; intro B9 X9 T9; (refine' pattern_spec _ _ _ _ _ _ _ callerA _ _ _ B9 X9 T9 ?_); clear B9 X9 T9; intro t9 h9 tk9 x9; (have F9 := Fr.keeps (by k_asm) x9); (have N9 := News.keeps (by k_asm) x9); clear x9; (try dsimp only); (try k_sweep))); (try (revert t9 h9 tk9 F9 N9; intros)))
  k_with "call builtin:str.replace" => (k_here; refine Stop.go ?_)
  k_with "eval Lambda" => ((k_here; kn_here; k_dflt (refine' kla_eval (by exact rfl) ?_); (k_dflt (refine' kla_nest2r (by k_asm) (by k_asm) (by k_asm) (by exact rfl) (by kn_code) (by k_updF) (by kn_triples) (by kn_among) (by exact rfl) ?_; k_whole); intro f' c' P' oc' vs' t' ct' h' tk' F' N' d1' d2' l1 lP l2 l3 ob1 ob2; (try dsimp only at N'); (try k_lt l1); (try k_lt lP); (try k_lt2 l2); (try k_lt2 l3))); (try (revert f' c' P' oc' vs' t' ct' h' tk' F' N' d1' d2' l1 lP l2 l3 ob1 ob2; intros)))
  k_with "exec Assign cons ListComp" => (k_here; (with_reducible show wpAny _ _ (exec (PySem.Stmt.Assign [PySem.Expr.Name _ _] (PySem.Expr.ListComp _ [⟨PySem.Expr.Name _ _, PySem.Expr.Call _ _ _ _, [], _⟩] _ _) _) _) _ _ _); k_dflt (refine LCg.Assign_ListComp_U (F₀ := by k_asm) (by rfl) (by with_unfolding_all rfl) (by with_unfolding_all rfl) (by decide) (by rfl) (by decide) (by rfl) (by rfl) (by rfl) ?_); (try k_dflt lcg_toSrc))
  k_with "exec Assign cons ListComp" => (k_here; (with_reducible show wpAny _ _ (exec (PySem.Stmt.Assign _ _ _) _) _ _ _); refine Stop.go ?_)
  k_with "call ref" => (k_here; (with_reducible show wpAny _ _ (call (Value.ref 104) _) _ _ _); refine Stop.go ?_)
  k_with "mine ne" => (first | exact Ne.symm (And.left (by with_reducible assumption)) | exact Ne.symm (And.left (And.right (by with_reducible assumption))) | exact Ne.symm (And.left (And.right (And.right (by with_reducible assumption)))) | exact Ne.symm (And.left (And.right (And.right (And.right (by with_reducible assumption))))) | exact Ne.symm (And.left (And.right (And.right (And.right (And.right (by with_reducible assumption)))))) | exact Ne.symm (And.left (And.right (And.right (And.right (And.right (And.right (by with_reducible assumption))))))) | exact Ne.symm (And.left (And.right (And.right (And.right (And.right (And.right (And.right (by with_reducible assumption)))))))) | exact Ne.symm (And.left (And.right (And.right (And.right (And.right (And.right (And.right (And.right (by with_reducible assumption))))))))) | exact Ne.symm (And.left (And.right (And.right (And.right (And.right (And.right (And.right (And.right (And.right (by with_reducible assumption)))))))))) | exact Ne.symm (And.left (And.right (And.right (And.right (And.right (And.right (And.right (And.right (And.right (And.right (by with_reducible assumption))))))))))) | exact Nat.ne_of_gt (And.left (by with_reducible assumption)) | exact Nat.ne_of_gt (And.left (And.right (by with_reducible assumption))) | exact Nat.ne_of_gt (And.left (And.right (And.right (by with_reducible assumption)))) | exact Nat.ne_of_gt (And.left (And.right (And.right (And.right (by with_reducible assumption))))) | exact Nat.ne_of_gt (And.left (And.right (And.right (And.right (And.right (by with_reducible assumption)))))) | exact Nat.ne_of_gt (And.left (And.right (And.right (And.right (And.right (And.right (by with_reducible assumption))))))) | exact Nat.ne_of_gt (And.left (And.right (And.right (And.right (And.right (And.right (And.right (by with_reducible assumption)))))))) | exact Nat.ne_of_gt (And.left (And.right (And.right (And.right (And.right (And.right (And.right (And.right (by with_reducible assumption))))))))) | exact Nat.ne_of_gt (And.left (And.right (And.right (And.right (And.right (And.right (And.right (And.right (And.right (by with_reducible assumption)))))))))) | exact Nat.ne_of_gt (And.left (And.right (And.right (And.right (And.right (And.right (And.right (And.right (And.right (And.right (by with_reducible assumption))))))))))))
  trivial
theorem law_tail : ∀ (w : World) (mean : ExcName → Option Value) (mg mb : Str → Option Value) (stmts : List Stmt) (esc : Scope) (L' nl D9 fo9 cc9 P9 ol9 nl9 ls tl : Addr) (ws9 ys os9 zs : List Value) (xs : List Int) (or9 of9 on9 okn oc9 oo2 : Obj) (kr4 : List (Addr × Obj))
    (base g : Heap) (s : Shared) (Q : Flow → Shared → Prop) (E : Value → Shared → Prop) (htk : 1 ≤ s.toks)
    (hE : lawAt w.params 5 = some (stmts, esc))
    (F1 : Fr g L' s.heap (fun y => if y = Str.ofString "told" then some (.ref tl) else if y = Str.ofString "script" then some (Value.ref ls) else none)) (N1 : News g L' s.heap ((tl, LCg.lst zs) :: (L' + 1 + 1 + 1 + 1, oo2) :: kr4))
    (TT : Tail2 [L' + 1 + 1 + 1 + 1] w L' nl D9 fo9 cc9 P9 ol9 nl9 ws9 ys os9 xs or9 of9 on9 okn oc9 kr4) (TB : TabsIn kr4) (hT : ToldIn kr4 zs 7 (fun k => Vof (xs.map ruleOf).reverse (nm7 (6 - k)) xs.length))
    (nt : @Ne Nat (L' + 1 + 1 + 1 + 1) tl) (dr9 : or9.data = .cell (some (.ref D9))) (dn9 : on9.data = .cell (some (.ref nl))) (dkn : okn.data = .cell (some (.ref nl9))) (doo2 : oo2.data = .cell none) (hI9 : IntsAre ws9 xs) (hxl : 0 < xs.length ∧ xs.length ≤ 6)
    (B : Below (AA 305 50 []) base [] g) (X : (Mine.heap39 w.params).In g) (T : Top topProg looseG mean mg mb g)
    (hQ : ∀ h' tk', (∀ b o, g.get? b = some o → h'.get? b = some o) → TabsNow h' → Q (.ret (.bool true)) { s with heap := h', toks := tk' }),
    wpAny (model PySem.Challenge.rw_in0045_01.row.prog w) ((AA 305 50 []).deeper (envOfC (Str.ofString "law") esc L' 147 (.ref 146))) (execs stmts (envOfC (Str.ofString "law") esc L' 147 (.ref 146))) Q E s := by
  k_fill
  intro w mean mg mb stmts esc L' nl D9 fo9 cc9 P9 ol9 nl9 ls tl ws9 ys os9 zs xs or9 of9 on9 okn oc9 oo2 kr4 base g s Q E htk hE F1 N1 TT TB hT nt dr9 dn9 dkn doo2 hI9 hxl B X T hQ
  have hC : CodeHd g 146 144 := codeHd_of_K X (by kernel_rfl)
  cases hE
  have mkn := TT.cnum
  have mnl := TT.nums
  repeat' (first | walk1 | (dsimp only; walk1))
  refine Stop.out ?_
  have hsz9 : ws9.toArray.size = xs.length := by rw [List.size_toArray, hI9.length]
  refine' assign_comp (n0 := 1) (ct := none) (h₀ := g) (L := L') (m := fun y => if y = Str.ofString "told" then some (.ref tl) else if y = Str.ofString "script" then some (Value.ref ls) else none) rfl ?hsw ?hclos ?hcell ?hkind ?hnames ?hx ?hy ?hp ?_
  (case hsw => with_unfolding_all rfl)
  (case hclos => with_unfolding_all rfl)
  (case hcell => decide)
  (case hkind => rfl)
  (case hnames => decide)
  (case hx => rfl)
  (case hy => rfl)
  (case hp => rfl)
  repeat' (first | walk1 | (dsimp only; walk1))
  refine ⟨nl9, ws9.toArray, _, fun i us nw => nw = (tl, LCg.lst zs) :: (L' + 1 + 1 + 1 + 1, oo2) :: kr4 ∧ SinAre xs us i, rfl, htk, rfl, F1, N1, Or.inr ⟨_, by k_mem, rfl, _, rfl⟩, ?sz, ⟨rfl, SinAre.nil⟩, ?turn, ?fin⟩
  (case sz => exact small_line (by rw [List.size_toArray, hI9.length]; omega))
  (case turn =>
    rintro i us nw v I oI C oC D m₂ h tk E' htk1 hi ⟨rfl, hS⟩ hPv hC' hx F2 N2 off ne
    rw [hsz9] at hi
    have hz : xs[i]? = some xs[i] := List.getElem?_eq_getElem hi
    obtain ⟨t, hv1⟩ := hI9.get i xs[i] hz
    generalize xs[i] = z at hv1 hz
    have hvv : v = .int z t := by
      have hP' : ws9[i]? = some v := by simpa using hPv
      rw [hv1] at hP'; exact (Option.some.inj hP').symm
    subst hvv
    clear hPv
    show wpAny _ _ (eval _ _) _ _ _
    repeat' (first | walk1 | (dsimp only; walk1))
    refine Stop.out ?_
    refine wpAny_with_toks (n := 1) htk1 ?_
    walk_at "mine use90"
    intro B9 X9 T9
    refine' pattern_spec _ _ _ _ _ _ _ callerA _ _ _ B9 X9 T9 ?_
    clear B9 X9 T9
    intro t9 h9 tk9 x9 htk9
    have F9 := Fr.keeps F2 x9
    have N9 := News.keeps N2 x9
    replace htk9 : 1 ≤ tk9 := htk9
    clear x9
    repeat' (first | walk1 | (dsimp only; walk1))
    refine Stop.out ?_
    refine wpAny_with_toks (n := 1) (Nat.le_trans htk9 (by show tk9 ≤ tk9 + 1 + 1; omega)) ?_
    refine SC.replace (by show tk9 ≠ 0; omega) (by show tk9 + 1 ≠ 0; omega) (by show tk9 ≠ tk9 + 1; omega) (by decide +kernel) (by rw [pat_len, star_len]; omega) ?_
    intro t10 tk10 htk10
    replace htk10 : 1 ≤ tk10 := htk10
    repeat' (first | walk1 | (dsimp only; walk1))
    refine Stop.out ?_
    refine SC.replace (by show tk10 ≠ 0; omega) (by show tk10 + 1 ≠ 0; omega) (by show tk10 ≠ tk10 + 1; omega) (by decide +kernel) (by have := rep_len z; rw [star_len]; omega) ?_
    intro t11 tk11
    repeat' (first | walk1 | (dsimp only; walk1))
    refine Stop.out ?_
    refine' LCg.CompEnd.intro F9 N9 _ ?sb2 off ?Sr2 ⟨rfl, hS.snoc hz⟩
    (case sb2 => (repeat' refine List.forall_mem_cons.mpr ⟨by k_mem, ?_⟩); exact fun p hp => by k_mem)
    (case Sr2 => exact Or.inr ⟨_, by k_mem, rfl, _, rfl⟩))
  (case fin =>
    rintro us nw ⟨rfl, hS⟩
    rw [hsz9] at hS
    intro Ds h9 tk9 F9 N9 o9
    have ns : @Ne Nat (L' + 1 + 1 + 1 + 1) Ds := (Off1.mem' o9 (L' + 1 + 1 + 1 + 1, oo2) (by k_mem))
    dsimp only
    refine law_tail2 w mean mg mb _ _ L' nl D9 fo9 cc9 P9 ol9 nl9 ls tl Ds ws9 ys os9 zs us xs or9 of9 on9 okn oc9 oo2 kr4 base g _ _ _ ?hE6 F9 N9 TT TB hT nt ns dr9 dn9 dkn doo2 hI9 hxl hS B X T (fun h' tk' k z => hQ h' tk' k z)
    (case hE6 => kernel_rfl))
end
section
-- text N80
open PySem PySem.W PyProof.Rows PySem.Calls PyProof.Rows.LCg PyProof.Rows.LCt
set_option maxHeartbeats 8000000
theorem rows_N80 : True := by
  k_with_none
  k_with "mine sides0" => ((case k3 => k_asm); (case k5 => k_asm); (case k6 => k_is); (case k7 => k_is); (case k8 => exact Nat.le_of_ble_eq_true rfl); (case k9 => first | exact BindsTo.of_eq rfl | exact binds_K (by k_in) rfl (by k_is) rfl rfl rfl); (case c5 => decide); (case kB => exact locs rfl); (case c2 => exact rfl); (case c3 => exact rfl); (case c4 => exact rfl))
  k_with "mine sidesC" => ((case k3 => k_asm); (case k5 => k_asm); (case k6 => k_is); (case k7 => k_is); (case k8 => exact Nat.le_of_ble_eq_true rfl); (case k9 => first | exact BindsTo.of_eq rfl | exact binds_K (by k_in) rfl (by k_is) rfl rfl rfl); (case kB => exact rfl); (case kD => decide +kernel); (case c2 => exact rfl); (case c3 => exact rfl); (case c4 => exact rfl))
  k_with "mine enter0" => ((refine' enterS (by k_asm) (by k_asm) (by k_is) (by k_is) (by exact Nat.le_of_ble_eq_true rfl) (by first | exact BindsTo.of_eq rfl | exact binds_K (by k_in) rfl (by k_is) rfl rfl rfl) (by exact locs rfl) ?_ (by exact rfl) (by exact rfl) (by exact rfl) (by decide); k_whole; intro L' h' F' N'); (try (revert L' h' F' N'; intros)))
  k_with "mine enterC" => ((refine' enterSC (by k_asm) (by k_asm) (by k_is) (by k_is) (by exact Nat.le_of_ble_eq_true rfl) (by first | exact BindsTo.of_eq rfl | exact binds_K (by k_in) rfl (by k_is) rfl rfl rfl) (by exact rfl) (by decide +kernel) ?_ (by exact rfl) (by exact rfl) (by exact rfl); k_whole; intro L' h' tk' cells' F' N' Y'; k_cells Y'; (try simp only [List.cons_append, List.nil_append, List.append_nil] at N')); (try (revert L' h' tk' cells' F' N' Y'; intros)))
  k_with "eval ListComp" => (k_here; lcf_look; k_dflt (refine LCg.ListComp_U (F₀ := by k_asm) (by with_unfolding_all rfl) (by decide) (by rfl) (by decide) (by rfl) ?_); k_dflt lcg_toSrc)
  k_with "CompSrc" => (k_here; k_dflt (first | (refine LCg.CompSrc.ledger (by rfl) (by k_asm) (by k_asm) (by k_mem) (by first | size_fits | exact Nat.le_of_ble_eq_true rfl) ?_; intro g'; lcg_lit) | (refine LCg.CompSrc.base (by rfl) (by k_asm) (by k_asm) (by assumption) (by first | size_fits | exact Nat.le_of_ble_eq_true rfl) ?_; intro g'; lcg_lit) | (refine LCg.CompSrc.range (by rfl) (by k_asm) (by k_asm) (by assumption) (by first | decide | rfl) (by first | rfl | decide) (by first | size_fits | exact Nat.le_of_ble_eq_true rfl) ?_; intro g'; lcg_lit)))
  k_with "getMethod str" => ((with_reducible show wpAny _ _ (getMethod (Value.str _ _) (PySem.Str.ofString "translate") _) _ _ _); refine GM.of _ (typeIs_str _ _ _) F.slot_str_translate F.type_str_translate GM.noRef ?_)
  k_with "call builtin:str.translate" => ((k_here; k_dflt (refine' translate_K (by k_asm) (by k_asm) (by k_asm) (by k_is) (by decide +kernel) (by assumption) (by rfl) (by rfl) (by rename _ ∨ _ => hn9; rcases hn9 with e | e <;> (rw [e]; decide +kernel)) ?_; k_whole); intro t9 h9 tk9 F9 N9); (try (revert t9 h9 tk9 F9 N9; intros)))
  k_with "getAttr ref" => ((k_here; (with_reducible show wpAny _ _ (getAttr (Value.ref _) (PySem.Str.ofString "append") _) _ _ _); k_dflt (refine' getAttr_append_K (by k_asm) (by k_asm) (by k_mem) ?_; k_whole); intro u' h' tk' F' N' l1; (try k_lt l1); (try k_sweep)); (try (revert u' h' tk' F' N' l1; intros)))
  k_with "callWith ref" => (k_here; (with_reducible show wpAny _ _ (callWith _ (Value.ref _) _ (backTo _ (starEach (_ :: _) _)) []) _ _ _); k_dflt (refine' callWith_bnd_K (by k_asm) (by k_mem) ?_; k_whole))
  k_with "And" => ((with_reducible show BndAt _ _ _ _ ∧ _); k_dflt (refine ⟨bndAt_of (by k_asm) (by k_mem), ?_⟩); (try dsimp only [List.nil_append, List.cons_append]))
  k_with "call ref" => ((k_here; k_dflt (refine' call_bnd_append_K (by k_asm) (by k_asm) (by k_mem) (by k_updF) (by first | assumption | size_fits | exact Nat.le_of_ble_eq_true rfl) ?_; k_whole); intro h' F' N'; (try dsimp only at N'); (try k_sweep)); (try (revert h' F' N'; intros)))
  k_with "exec While Compare cons nil" => (k_here; (with_reducible show wpAny _ _ (exec (Stmt.While _ _ _ _) _) _ _ _); refine Stop.go ?_)
  k_with "call builtin:len" => ((k_here; (with_reducible show wpAny _ _ (call (Value.builtin "len") [Value.str (Str.mk _) _]) _ _ _); (first | refine len_known 3 rfl rfl ?_ | refine len_known 2 rfl rfl ?_ | refine len_known 1 rfl rfl ?_ | refine len_known 0 rfl rfl ?_); intro t9 k9); (try (revert t9 k9; intros)))
  k_with "subscriptTail Name Name str int" => ((k_here; (with_reducible show wpAny _ _ (subscriptTail _ _ (Value.str _ _) (Value.int _ _)) _ _ _); k_dflt (refine' item_at (by assumption) (by omega) ?_; k_whole); intro t9 k9); (try (revert t9 k9; intros)))
  k_with "subscriptTail" => (k_here; (with_reducible show wpAny _ _ (subscriptTail _ _ (Value.ref _) (Value.int (-1) _)) _ _ _); k_dflt (refine' item_last (by k_asm) (by k_mem) (by omega) ?_; k_whole))
  k_with "truthy ref" => ((k_here; (with_reducible show wpAny _ _ (truthy (Value.ref _)) _ _ _); k_dflt (first | (refine' truthy_known true (by k_asm) (by k_mem) (by (first | assumption | exact Nat.le_of_ble_eq_true rfl | (simp only [Array.size_push]; omega))) (by (first | rfl | (simp; done))) ?_; k_whole) | (refine' truthy_known false (by k_asm) (by k_mem) (by (first | assumption | exact Nat.le_of_ble_eq_true rfl)) (by rfl) ?_; k_whole)); intro k9); (try (revert k9; intros)))
  k_with "ite" => (k_closed; k_dflt (first | refine ite_pos (by decide +kernel) ?_ | refine ite_neg (by decide +kernel) ?_))
  k_with "exec For Name Call cons nil" => (k_here; (with_reducible show wpAny _ _ (exec (Stmt.For _ _ _ _ _) _) _ _ _); refine Stop.go ?_)
  k_with "pyIter ref" => (k_here; (with_reducible show wpAny _ _ (pyIter _) (fun _ _ => LoopAtV _ _ _ _ _ _ _ _ _ _ _) _ _); refine Stop.go ?_)
  k_with "call builtin:len" => ((k_here; (with_reducible show wpAny _ _ (call (Value.builtin "len") [Value.ref _]) _ _ _); k_dflt (refine' len_list_is (by first | assumption | exact Fr.lst (by assumption) (by assumption)) (by assumption) (by omega) ?_; k_whole); intro t9 k9); (try (revert t9 k9; intros)))
  k_with "compareOp In int ref" => (k_here; k_dflt (refine' in_list_ints (by is_list) (by assumption) ?_; k_whole))
  k_with "subscriptTail Name BinOp ref int" => (k_here; k_dflt (refine' item_pred (by is_list) (by assumption) (by omega) ?_; k_whole))
  k_with "binaryOp Add ref ref" => ((k_here; k_dflt (refine' add_ints_K (by k_asm) (by k_asm) (by k_mem) (by k_mem) (by assumption) (by omega) ?_; k_whole); intro D' h' ws' F' N' hI'); (try (revert D' h' ws' F' N' hI'; intros)))
  k_with "exec Assign cons ListComp" => (k_here; lct_look; k_dflt (refine LCt.Assign_ListComp_T (F₀ := by k_asm) (by rfl) (by with_unfolding_all rfl) (by with_unfolding_all rfl) (by decide) (by rfl) (by decide) (by rfl) (by rfl) (by rfl) ?_); k_dflt lct_toSrc)
  k_with "subscriptTail Name Name ref int" => (k_here; k_dflt (refine' item_nat_list (by is_list) (by assumption) (by omega) ?_; k_whole))
  k_with "compareOp In none ref" => (k_here; k_dflt (refine' in_disp (by is_list) (by assumption) ?_; k_whole))
  k_with "compareOp In str ref" => (k_here; k_dflt (refine' in_disp (by is_list) (by assumption) ?_; k_whole))
  k_with "mine use80" => (refine wpAny_call ?_; (refine' use0 (d := 380) (u := 800) ?B ?F ?X ?T ?hA ?hf ?hk ?hh ?hd ?hu ?_; (case B => k_asm); (case F => k_asm); (case X => k_asm); (case T => k_asm); (case hA => exact rfl); (case hf => exact rfl); (case hk => exact rfl); (case hh => exact rfl); (case hd => exact Nat.le_of_ble_eq_true rfl); (case hu => exact Nat.le_of_ble_eq_true rfl)))
  k_with "call builtin:iter" => ((k_here; (with_reducible show wpAny _ _ (call (Value.builtin "iter") [Value.str _ _]) _ _ _); k_dflt (refine' iter_str_K (by k_asm) (by k_asm) (by assumption) ?_; k_whole); intro I9 h9 F9 N9 l9 f9; (try k_lt l9)); (try (revert I9 h9 F9 N9 l9 f9; intros)))
  k_with "compareOp Is ref ref" => (k_here; (with_reducible show wpAny _ _ (compareOp CmpOp.Is (Value.ref _) (Value.ref _)) _ _ _); k_dflt (refine' is_list_other (by is_list) (by kto_obj) (by assumption) ?_; k_whole))
  k_with "mine use70" => (refine wpAny_call ?_; (refine' use0 (d := 370) (u := 700) ?B ?F ?X ?T ?hA ?hf ?hk ?hh ?hd ?hu ?_; (case B => k_asm); (case F => k_asm); (case X => k_asm); (case T => k_asm); (case hA => exact rfl); (case hf => exact rfl); (case hk => exact rfl); (case hh => exact rfl); (case hd => exact Nat.le_of_ble_eq_true rfl); (case hu => exact Nat.le_of_ble_eq_true rfl)))
  k_with "mine use60" => (refine wpAny_call ?_; (refine' use0 (d := 360) (u := 600) ?B ?F ?X ?T ?hA ?hf ?hk ?hh ?hd ?hu ?_; (case B => k_asm); (case F => k_asm); (case X => k_asm); (case T => k_asm); (case hA => exact rfl); (case hf => exact rfl); (case hk => exact rfl); (case hh => exact rfl); (case hd => exact Nat.le_of_ble_eq_true rfl); (case hu => exact Nat.le_of_ble_eq_true rfl)))
  k_with "mine use50" => (refine wpAny_call ?_; (refine' use0 (d := 350) (u := 500) ?B ?F ?X ?T ?hA ?hf ?hk ?hh ?hd ?hu ?_; (case B => k_asm); (case F => k_asm); (case X => k_asm); (case T => k_asm); (case hA => exact rfl); (case hf => exact rfl); (case hk => exact rfl); (case hh => exact rfl); (case hd => exact Nat.le_of_ble_eq_true rfl); (case hu => exact Nat.le_of_ble_eq_true rfl)))
  k_with "eval Name" => (k_here; kc_free; k_dflt (refine' nameX_old (by k_asm) (by rfl) (by assumption) ?_ (by rfl) (by rfl); k_whole))
  k_with "call builtin:iter" => ((k_here; (with_reducible show wpAny _ _ (call (Value.builtin "iter") [Value.ref _]) _ _ _); k_dflt (refine' iter_list_K (by k_asm) (by k_asm) (by is_list) ?_; k_whole); intro I9 h9 F9 N9 l9 f9; (try k_lt l9)); (try (revert I9 h9 F9 N9 l9 f9; intros)))
  k_with "exec For Name Name cons nil" => (k_here; (with_reducible show wpAny _ _ (exec (Stmt.For _ _ _ _ _) _) _ _ _); refine Stop.go ?_)
  k_with "callWith ref" => (k_here; (with_reducible show wpAny _ _ (callWith _ (Value.ref _) _ (backTo _ (starEach (_ :: _) _)) []) _ _ _); k_dflt (refine' callWith_F (by exact fnAt_kept (by k_asm) (by assumption)) ?_; k_whole))
  k_with "And" => ((with_reducible show FnAt _ _ ∧ _); k_dflt (refine ⟨fnAt_kept (by k_asm) (by assumption), ?_⟩); (try dsimp only [List.nil_append, List.cons_append]))
  k_with "call ref" => (k_here; (with_reducible show wpAny _ _ (call (Value.ref _) [Value.int _ _, Value.ref _]) _ _ _); refine Stop.go ?_)
  k_with "compareOp Is int ref" => (k_here; (with_reducible show wpAny _ _ (compareOp CmpOp.Is (Value.int _ _) (Value.ref _)) _ _ _); refine wpAny_is_other (by rfl) (by intro x; cases x) ?_)
  k_with "call ref" => (k_here; (with_reducible show wpAny _ _ (call (Value.ref 90) [Value.ref 130]) _ _ _); refine Stop.go ?_)
  k_with "CompSrcT" => (k_here; refine Stop.go ?_)
  k_with "CompEnd" => (k_here; refine Stop.go ?_)
  k_with "eval ListComp" => (k_here; (with_reducible show wpAny _ _ (eval (PySem.Expr.ListComp _ [⟨PySem.Expr.Tuple _ _ _, _, _, _⟩] _ _) _) _ _ _); refine Stop.go ?_)
  k_with "call ref" => (k_here; (with_reducible show wpAny _ _ (call (Value.ref _) _) _ _ _); refine Stop.go ?_)
  k_with "CompSrc" => (k_here; refine Stop.go ?_)
  k_with "mine use90" => (refine wpAny_call ?_; (refine' use0 (d := 390) (u := 900) ?B ?F ?X ?T ?hA ?hf ?hk ?hh ?hd ?hu ?_; (case B => k_asm); (case F => k_asm); (case X => k_asm); (case T => k_asm); (case hA => exact rfl); (case hf => exact rfl); (case hk => exact rfl); (case hh => exact rfl); (case hd => exact Nat.le_of_ble_eq_true rfl); (case hu => exact Nat.le_of_ble_eq_true rfl)))
  k_with "call ref" => ((k_here; (with_reducible show wpAny _ _ (call (Value.ref 104) [Value.int _ _]) _ _ _); k_dflt (walk_at "mine use90"; intro B9 X9 T9; (refine' pattern_spec _ _ _ _ _ _ _ callerA _ _ _ B9 X9 T9 ?_); clear B9 X9 T9; intro t9 h9 tk9 x9; (have F9 := Fr.keeps (by k_asm) x9); (have N9 := News.keeps (by k_asm) x9); clear x9; (try dsimp only); (try k_sweep))); (try (revert t9 h9 tk9 F9 N9; intros)))
  k_with "call builtin:str.replace" => (k_here; refine Stop.go ?_)
  k_with "eval Lambda" => ((k_here; kn_here; k_dflt (refine' kla_eval (by exact rfl) ?_); (k_dflt (refine' kla_nest2r (by k_asm) (by k_asm) (by k_asm) (by exact rfl) (by kn_code) (by k_updF) (by kn_triples) (by kn_among) (by exact rfl) ?_; k_whole); intro f' c' P' oc' vs' t' ct' h' tk' F' N' d1' d2' l1 lP l2 l3 ob1 ob2; (try dsimp only at N'); (try k_lt l1); (try k_lt lP); (try k_lt2 l2); (try k_lt2 l3))); (try (revert f' c' P' oc' vs' t' ct' h' tk' F' N' d1' d2' l1 lP l2 l3 ob1 ob2; intros)))
  k_with "exec Assign cons ListComp" => (k_here; (with_reducible show wpAny _ _ (exec (PySem.Stmt.Assign [PySem.Expr.Name _ _] (PySem.Expr.ListComp _ [⟨PySem.Expr.Name _ _, PySem.Expr.Call _ _ _ _, [], _⟩] _ _) _) _) _ _ _); k_dflt (refine LCg.Assign_ListComp_U (F₀ := by k_asm) (by rfl) (by with_unfolding_all rfl) (by with_unfolding_all rfl) (by decide) (by rfl) (by decide) (by rfl) (by rfl) (by rfl) ?_); (try k_dflt lcg_toSrc))
  k_with "storeName" => (k_here; (have hmk9 : Mark := (by assumption)); clear hmk9; refine Stop.go ?_)
  k_with "exec Assign cons Lambda" => (k_here; (have hmk9 : Mark := (by assumption)); clear hmk9; refine Stop.go ?_)
  k_with "exec Assign cons ListComp" => (k_here; (have hmk9 : Mark := (by assumption)); clear hmk9; refine Stop.go ?_)
  k_with "mine ne" => (first | exact Ne.symm (And.left (by with_reducible assumption)) | exact Ne.symm (And.left (And.right (by with_reducible assumption))) | exact Ne.symm (And.left (And.right (And.right (by with_reducible assumption)))) | exact Ne.symm (And.left (And.right (And.right (And.right (by with_reducible assumption))))) | exact Ne.symm (And.left (And.right (And.right (And.right (And.right (by with_reducible assumption)))))) | exact Ne.symm (And.left (And.right (And.right (And.right (And.right (And.right (by with_reducible assumption))))))) | exact Ne.symm (And.left (And.right (And.right (And.right (And.right (And.right (And.right (by with_reducible assumption)))))))) | exact Ne.symm (And.left (And.right (And.right (And.right (And.right (And.right (And.right (And.right (by with_reducible assumption))))))))) | exact Ne.symm (And.left (And.right (And.right (And.right (And.right (And.right (And.right (And.right (And.right (by with_reducible assumption)))))))))) | exact Ne.symm (And.left (And.right (And.right (And.right (And.right (And.right (And.right (And.right (And.right (And.right (by with_reducible assumption))))))))))) | exact Nat.ne_of_gt (And.left (by with_reducible assumption)) | exact Nat.ne_of_gt (And.left (And.right (by with_reducible assumption))) | exact Nat.ne_of_gt (And.left (And.right (And.right (by with_reducible assumption)))) | exact Nat.ne_of_gt (And.left (And.right (And.right (And.right (by with_reducible assumption))))) | exact Nat.ne_of_gt (And.left (And.right (And.right (And.right (And.right (by with_reducible assumption)))))) | exact Nat.ne_of_gt (And.left (And.right (And.right (And.right (And.right (And.right (by with_reducible assumption))))))) | exact Nat.ne_of_gt (And.left (And.right (And.right (And.right (And.right (And.right (And.right (by with_reducible assumption)))))))) | exact Nat.ne_of_gt (And.left (And.right (And.right (And.right (And.right (And.right (And.right (And.right (by with_reducible assumption))))))))) | exact Nat.ne_of_gt (And.left (And.right (And.right (And.right (And.right (And.right (And.right (And.right (And.right (by with_reducible assumption)))))))))) | exact Nat.ne_of_gt (And.left (And.right (And.right (And.right (And.right (And.right (And.right (And.right (And.right (And.right (by with_reducible assumption))))))))))))
  trivial
def Mark : Prop := True
theorem law_spec : ∀ (w : World) (mean : ExcName → Option Value) (mg mb : Str → Option Value) (ls : Addr) (vs : List Value) (ns : List Int)
    (base g : Heap) (s : Shared) (R : Result → Shared → Prop)
    (hg : g = hideAll s.heap [144, 118, 85]) (ht1 : s.heap.get? 144 = some (tabObj #[])) (ht2 : s.heap.get? 118 = some (tabObj #[])) (ht3 : s.heap.get? 85 = some (tabObj #[])) (hb0 : g.get? 0 = some (boot_o_0 w.params)) (hb4 : g.get? 4 = some (boot_o_4 w.params))
    (hl : g.IsList ls vs.toArray) (hv : IntsAre vs ns) (hn : ns.length ≤ 63)
    (B : Below (AA 305 50 []) base [] g) (X : (Mine.heap39 w.params).In g) (T : Top topProg looseG mean mg mb g)
    (hret : ∀ (h' : Heap) (tk' : Nat), (∀ b o, g.get? b = some o → h'.get? b = some o) → TabsNow h' → R (.ok (.ret (.bool true))) { s with heap := h', toks := tk' }),
    codeAny (model PySem.Challenge.rw_in0045_01.row.prog w) (AA 305 50 []) (.call (.ref 147) ⟨[.ref ls], []⟩) R s := by
  k_fill
  intro w mean mg mb ls vs ns base g s R hg ht1 ht2 ht3 hb0 hb4 hl hv hn B X T hret
  refine' enterC (tb := [(144, tabObj #[]), (118, tabObj #[]), (85, tabObj #[])]) (binds := [(Str.ofString "script", .ref ls)]) g hg ?kt ?k3 ?k5 ?k6 ?k7 ?k8 ?k9 ?kB ?kD ?_ ?c2 ?c3 ?c4
  (case kt =>
    intro q hq
    simp only [List.mem_cons, List.not_mem_nil, or_false] at hq
    rcases hq with rfl | rfl | rfl
    · exact ht1
    · exact ht2
    · exact ht3)
  walk_at "mine sidesC"
  intro L' h' tk' cells' F' N' Y' l0
  k_cells Y'
  rename_i oo1 oo2 oo3 oo4 oo5 dd1 dd2 dd3 dd4 dd5
  replace dd1 : oo1.data = .cell none := dd1
  replace dd2 : oo2.data = .cell none := dd2
  replace dd3 : oo3.data = .cell none := dd3
  replace dd4 : oo4.data = .cell none := dd4
  replace dd5 : oo5.data = .cell none := dd5
  replace F' : Fr g L' h' (fun y => if y = Str.ofString "script" then some (.ref ls) else none) := F'
  (try simp only [List.cons_append, List.nil_append, List.append_nil] at N')
  k_lt l0
  have hC : CodeHd g 146 144 := codeHd_of_K X (by kernel_rfl)
  repeat' (first | walk1 | (dsimp only; walk1))
  refine Stop.out ?_
  rename_i _ _ _ _ _ _ _ _ _ _ nl9 ws9 _ hI9 ln9 _ okn F9 N9 dkn
  obtain ⟨xs, hxs⟩ : ∃ xs, List.take 3 ns ++ [141, 160, 92] = xs := ⟨_, rfl⟩
  have hxl : 0 < xs.length ∧ xs.length ≤ 6 := by rw [← hxs, List.length_append]; simp; omega
  rw [hxs] at hI9
  have N10 := News.sub (n2 := [(L' + 1 + 1 + 1 + 1 + 1, oo1), (L' + 1 + 1 + 1 + 1, oo2), (L' + 1 + 1 + 1, oo3), (L' + 1 + 1, oo4), (144, tabObj #[]), (118, tabObj #[]), (85, tabObj #[]), (nl9, W.listOf ws9.toArray 0), (L' + 1, okn)]) N9 (by (repeat' refine List.forall_mem_cons.mpr ⟨by k_mem, ?_⟩); exact fun p hp => nomatch hp)
  clear N9
  have hA0 : Away [L' + 1 + 1 + 1 + 1 + 1, L' + 1 + 1 + 1 + 1, L' + 1 + 1 + 1, L' + 1 + 1, 144, 118, 85] [(nl9, W.listOf ws9.toArray 0), (L' + 1, okn)] := by
    refine Away.cons (Away.cons Away.nil ?_) ?_
    · intro c hc
      simp only [List.mem_cons, List.not_mem_nil, or_false] at hc
      rcases hc with rfl | rfl | rfl | rfl | rfl | rfl | rfl <;> k_ne
    · intro c hc
      simp only [List.mem_cons, List.not_mem_nil, or_false] at hc
      rcases hc with rfl | rfl | rfl | rfl | rfl | rfl | rfl <;> k_ne
  refine' LCg.CompSrc.ledger rfl ?F0 ?N0 ?l0 ?z0 ?_
  (case F0 => assumption)
  (case N0 => exact N10)
  (case l0 => k_mem)
  (case z0 => exact small_line (by rw [List.size_toArray, hI9.length]; omega))
  intro gg
  have hsz9 : ws9.toArray.size = xs.length := by rw [List.size_toArray, hI9.length]
  rw [hsz9]
  refine rest_ind xs.length (fun i ys nw => ∃ kr, nw = (L' + 1 + 1 + 1 + 1 + 1, oo1) :: (L' + 1 + 1 + 1 + 1, oo2) :: (L' + 1 + 1 + 1, oo3) :: (L' + 1 + 1, oo4) :: (144, tabObj #[]) :: (118, tabObj #[]) :: (85, tabObj #[]) :: kr ∧
    RulesIn kr ys ((xs.take i).map ruleOf) ∧ Away [L' + 1 + 1 + 1 + 1 + 1, L' + 1 + 1 + 1 + 1, L' + 1 + 1 + 1, L' + 1 + 1, 144, 118, 85] kr ∧ (nl9, W.listOf ws9.toArray 0) ∈ kr ∧ (L' + 1, okn) ∈ kr) ?turn ?fin xs.length 0 [] _ rfl ⟨_, rfl, .nil, hA0, .head _, .tail _ (.head _)⟩
  (case turn =>
    rintro i ys nw v I oI C oC D m₂ h tk E' hi ⟨kr, rfl, hR, hA, hm1, hm2⟩ hPv hC' hx F1 N1 off ne
    have hz : xs[i]? = some xs[i] := List.getElem?_eq_getElem hi
    obtain ⟨t, hv1⟩ := hI9.get i xs[i] hz
    generalize xs[i] = z at hv1 hz
    have hvv : v = .int z t := by
      have hP' : ws9[i]? = some v := by simpa using hPv
      rw [hv1] at hP'; exact (Option.some.inj hP').symm
    subst hvv
    clear hPv
    repeat' (first | walk1 | (dsimp only; walk1))
    refine Stop.out ?_
    rename_i tp9 hh9 _ F11 N11
    obtain ⟨c0, c1, c2, q0, q1, q2, ep⟩ := pat_is z
    rw [ep]
    walk_at "mine use80"
    intro B9 X9 T9
    refine translate_spec w mean mg mb c0 c1 c2 _ _ _ base _ _ ?hcs B9 X9 T9 ?_
    (case hcs =>
      intro c hc
      simp only [List.mem_cons, List.not_mem_nil, or_false] at hc
      rcases hc with rfl | rfl | rfl
      · simpa [sig4] using q0
      · simpa [sig4] using q1
      · simpa [sig4] using q2)
    intro a9 h9 tk9 vs9 n9 x9 f9 g9 p9 z9
    have F12 := F11.keeps x9
    have N12 := news_cons F11 N11 x9 f9 g9
    have ne9 := news_ne N11 f9
    clear B9 X9 T9 x9 f9 g9 N11 F11
    dsimp only
    repeat' (first | walk1 | (dsimp only; walk1))
    refine Stop.out ?_
    rename_i l9 _ F13 N13 ll13
    have n0 : ∀ p ∈ kr, p ∈ (l9, W.listOf #[Value.int (z.fmod 2) (tk + 1), Value.ref a9] 0) :: (a9, lobj vs9 n9) :: kr := fun p hp => .tail _ (.tail _ hp)
    refine' LCg.CompEnd.intro F13 N13 ((L' + 1 + 1 + 1 + 1 + 1, oo1) :: (L' + 1 + 1 + 1 + 1, oo2) :: (L' + 1 + 1 + 1, oo3) :: (L' + 1 + 1, oo4) :: (144, tabObj #[]) :: (118, tabObj #[]) :: (85, tabObj #[]) :: (l9, W.listOf #[Value.int (z.fmod 2) (tk + 1), Value.ref a9] 0) :: (a9, lobj vs9 n9) :: kr) ?sub1 ?off1 ?S1 ⟨_, rfl, ?R1, ?A1, n0 _ hm1, n0 _ hm2⟩
    (case S1 => exact Or.inr ⟨_, by k_mem, rfl, _, rfl⟩)
    (case R1 =>
      rw [take_map_succ hz]
      refine (hR.more n0).snoc ⟨l9, _, a9, vs9, _, n9, rfl, .head _, .tail _ (.head _), ?_, ?_⟩
      · show PAre vs9.toList (trans (pat z).cps.toList)
        rw [ep]; exact p9
      · show (trans (pat z).cps.toList).length ≤ 8
        rw [ep]
        have := p9.length
        rw [Array.length_toList] at this
        show (trans [c0, c1, c2]).length ≤ 8
        omega)
    (case A1 =>
      refine Away.cons (Away.cons hA ?_) ?_
      · intro c hc
        simp only [List.mem_cons, List.not_mem_nil, or_false] at hc
        rcases hc with rfl | rfl | rfl | rfl | rfl | rfl | rfl
        · exact (ne9 (L' + 1 + 1 + 1 + 1 + 1, oo1) (by k_mem)).symm
        · exact (ne9 (L' + 1 + 1 + 1 + 1, oo2) (by k_mem)).symm
        · exact (ne9 (L' + 1 + 1 + 1, oo3) (by k_mem)).symm
        · exact (ne9 (L' + 1 + 1, oo4) (by k_mem)).symm
        · exact (ne9 (144, tabObj #[]) (by k_mem)).symm
        · exact (ne9 (118, tabObj #[]) (by k_mem)).symm
        · exact (ne9 (85, tabObj #[]) (by k_mem)).symm
      · intro c hc
        simp only [List.mem_cons, List.not_mem_nil, or_false] at hc
        rcases hc with rfl | rfl | rfl | rfl | rfl | rfl | rfl <;> k_ne)
    (case sub1 => (repeat' refine List.forall_mem_cons.mpr ⟨by k_mem, ?_⟩); exact fun p hp => by k_mem)
    (case off1 =>
      refine off3_more (n1 := [(L' + 1 + 1 + 1 + 1 + 1, oo1), (L' + 1 + 1 + 1 + 1, oo2), (L' + 1 + 1 + 1, oo3), (L' + 1 + 1, oo4), (144, tabObj #[]), (118, tabObj #[]), (85, tabObj #[])]) (ex := [(l9, W.listOf #[Value.int (z.fmod 2) (tk + 1), Value.ref a9] 0), (a9, lobj vs9 n9)]) off ?_
      intro p hp
      simp only [List.mem_cons, List.not_mem_nil, or_false] at hp
      rcases hp with rfl | rfl
      · exact ⟨by k_ne, by k_ne, by k_ne⟩
      · exact ⟨(ne9 (I, oI) (by k_mem)).symm, (ne9 (C, oC) (by k_mem)).symm, (ne9 (D, lst ys) (by k_mem)).symm⟩))
  (case fin =>
    rintro ys nw ⟨kr, rfl, hR, hA, hm1, hm2⟩
    rw [List.take_length] at hR
    have mk : Mark := trivial
    repeat' (first | walk1 | (dsimp only; walk1))
    refine Stop.out ?_
    clear mk
    walk1
    have mk : Mark := trivial
    repeat' (first | walk1 | (dsimp only; walk1))
    refine Stop.out ?_
    refine wpAny_with_toks (n := 1) (by dsimp only; omega) ?_
    clear mk
    walk1
    intro htk
    have mk : Mark := trivial
    repeat' (first | walk1 | (dsimp only; walk1))
    refine Stop.out ?_
    refine wpAny_with_toks (n := 1) htk ?_
    clear htk mk
    walk1
    have mk : Mark := trivial
    repeat' (first | walk1 | (dsimp only; walk1))
    refine Stop.out ?_
    clear mk
    walk1
    intro htk
    have mk : Mark := trivial
    repeat' (first | walk1 | (dsimp only; walk1))
    refine Stop.out ?_
    refine wpAny_with_toks (n := 1) htk ?_
    clear htk mk
    repeat' (first | walk1 | (dsimp only; walk1))
    refine Stop.out ?_
    rename_i D9 _ tn9 oD9 _ or9 dr9 nl _ _ _ on9 dn9 fo9 cc9 P9 oc9 vc9 tc9 ct9 _ _ dc9 dq9 ob1 ob2 l19 lP9 l29 l39 h40 of9 F40 N40 df9
    generalize hq : (_ : Str) ++ Str.ofString "<lambda>" = qq at N40 dq9
    obtain rfl : qq = Str.ofString "law.<locals>.<lambda>" := by rw [← hq]; kernel_rfl
    clear hq
    refine wpAny_call ?_
    refine' useT (tb := [(85, tabObj #[])]) (d := 320) (u := 200) B F40 (News.sub N40 (by intro p hp; rw [List.mem_singleton.mp hp]; k_mem)) X T ?hA ?hf ?hk ?hh ?hd ?hu ?_
    (case hA => exact rfl)
    (case hf => exact rfl)
    (case hk => exact rfl)
    (case hh => exact rfl)
    (case hd => exact Nat.le_of_ble_eq_true rfl)
    (case hu => exact Nat.le_of_ble_eq_true rfl)
    intro g3 hg3 st3 B3 X3 T3
    have n85 : @Ne Nat nl 85 := by k_ne
    have n85P : @Ne Nat 85 P9 := by have := lP9; omega
    refine off_spec w mean mg mb nl _ _ _ _ _ _ _ _ base g3 _ _ hg3 (N40.get (a := 85) (by k_mem)) (st3 _ _ hb0) (st3 _ _ hb4) ⟨_, hg3 ▸ hideAll_get _ (N40.get (a := nl) (by k_mem)) (fun hm => n85 (List.mem_singleton.mp hm)), rfl, _, rfl⟩ B3 X3 T3 ?_
    intro ol9 os9 no9 h41 tk41 k41 f41 e41 hO ⟨v85, e85⟩
    have N43 := News.sub (n2 := (P9, tabObj #[]) :: (118, tabObj #[]) :: (L' + 1 + 1 + 1 + 1, oo2) :: (nl, _) :: (D9, LCg.lst ys) :: (L' + 1 + 1 + 1 + 1 + 1, or9) :: (L' + 1 + 1 + 1, of9) :: (L' + 1 + 1, on9) :: (fo9, _) :: (cc9, oc9) :: (144, _) :: kr) N40 (by (repeat' refine List.forall_mem_cons.mpr ⟨by k_mem, ?_⟩); exact fun p hp => by k_mem)
    have ha85 := apart_of_news (d := 85) N43 (by repeat' first | exact hA 85 (by k_mem) | refine Apart.cons ?_ (by k_ne))
    obtain ⟨F41, N41a, N41b⟩ := after85 F40 (ex := [(ol9, lobj os9.toArray no9), (85, tabObj v85)]) N43 (News.sub N40 (by intro p hp; rw [List.mem_singleton.mp hp]; k_mem)) ha85 (hg3 ▸ k41) (by intro p hp; rcases List.mem_cons.mp hp with rfl | hp; exact e41; rw [List.mem_singleton.mp hp]; exact e85) (by intro p hp; rcases List.mem_cons.mp hp with rfl | hp; exact hg3 ▸ f41; rw [List.mem_singleton.mp hp]; exact hideAll_none _ (.head _))
    have ne41 := apart_hid (a := ol9) N43 ha85 (hg3 ▸ f41)
    have N42 := news_app N41b N41a
    obtain ⟨kr2, N44, TT⟩ := opaque3 (P := Tail2 [P9, 118, L' + 1 + 1 + 1 + 1] w L' nl D9 fo9 cc9 P9 ol9 nl9 ws9 ys os9 xs or9 of9 on9 okn oc9) N42 (by
      refine' ⟨hR.more (fun p hp => by k_mem), ?aw, ⟨tn9, by k_mem⟩, by k_mem, by k_mem, by k_mem, by k_mem, by k_mem, by k_mem, ⟨_, _, _, ((lamOfFold w.params).map fun x => x.2.2.2).getD ⟨0, 0, 0, 0⟩, _, _, ?lf, by k_mem⟩, by k_mem, ⟨no9, by k_mem⟩, ⟨_, by k_mem⟩, v85, by k_mem⟩
      (case lf => kernel_rfl)
      (case aw =>
        refine Away.append (k1 := _ :: _ :: _ :: _ :: _ :: _ :: _ :: _ :: kr) ?_ ?_
        · intro c hc
          simp only [List.mem_cons, List.not_mem_nil, or_false] at hc
          rcases hc with e | e | e
          · rw [e]
            have aP : Apart kr P9 := apart_lt lP9.2.2.2.2.2.2.2.2.2
            repeat' first | exact aP | refine Apart.cons ?_ (by first | exact ob2 | k_ne)
          · rw [e]
            repeat' first | exact hA 118 (by k_mem) | refine Apart.cons ?_ (by k_ne)
          · rw [e]
            repeat' first | exact hA (L' + 1 + 1 + 1 + 1) (by k_mem) | refine Apart.cons ?_ (by k_ne)
        · refine Away.cons (Away.cons Away.nil fun c hc => by
            simp only [List.mem_cons, List.not_mem_nil, or_false] at hc
            rcases hc with e | e | e
            · rw [e]; exact (n85P : @Ne Nat 85 P9)
            · rw [e]; decide
            · rw [e]; k_ne) ?_
          intro c hc
          simp only [List.mem_cons, List.not_mem_nil, or_false] at hc
          rcases hc with e | e | e
          · rw [e]; exact (ne41 (P9, tabObj #[]) (by k_mem)).symm
          · rw [e]; exact (ne41 (118, tabObj #[]) (by k_mem)).symm
          · rw [e]; exact (ne41 (L' + 1 + 1 + 1 + 1, oo2) (by k_mem)).symm))
    clear N40 N41a N41b N42 N43 hR hA hm1 hm2 ne41 ha85 B3 X3 T3 st3 k41 hg3 e41 f41 F40
    refine told_comp w mean mg mb _ _ _ L' nl D9 fo9 cc9 P9 ol9 nl9 ls ws9 ys os9 xs or9 of9 on9 okn oc9 oo2 vc9 tc9 kr2 base g _ _ ?hE F41 N44 TT dr9 df9 dc9 dq9 ob1 ob2 ?l1 ?l2 ?l3 hO hxl B X T ?fin3
    (case hE => kernel_rfl)
    (case l1 => have := lP9; omega)
    (case l2 => omega)
    (case l3 => have := lP9; omega)
    intro h60 zs kr4 TT4 hT4 TB4
    clear N44 TT F41
    intro tl h70 tk70 F70 N70 o70
    intro htk70
    refine law_tail w mean mg mb _ _ L' nl D9 fo9 cc9 P9 ol9 nl9 ls tl ws9 ys os9 zs xs or9 of9 on9 okn oc9 oo2 kr4 base g _ _ _ htk70 ?hE5 F70 N70 TT4 TB4 hT4 ?nt dr9 dn9 dkn dd2 hI9 hxl B X T (fun h' tk' k z => hret h' tk' k z)
    (case hE5 => kernel_rfl)
    (case nt => exact Off1.mem' o70 (L' + 1 + 1 + 1 + 1, oo2) (.head _)))
end
end
section
-- text N90
open PySem PySem.W PyProof.Rows PySem.Calls
set_option maxHeartbeats 8000000
theorem tab_old {h h' : Heap} {c P : Addr} {vs : Array Value} (C : CodeHd h c P) (e : h.get? P = some (tabObj #[])) (e' : h'.get? P = some (tabObj vs)) : asItWas h h' P (tabObj #[]) :=
  .inr (.inl ⟨(C.tab e).isCodeTable, rfl, #[], vs, rfl, by rw [e']; simp [tabObj]⟩)
theorem oldK_of {h h' : Heap} {tabs : List (Addr × Addr)} (hT : TabsAt tabs h) (k : ∀ b o, (ghostOf h tabs).get? b = some o → h'.get? b = some o) (x : ∀ c ∈ tabs.map (·.2), ∃ vs, h'.get? c = some (tabObj vs)) : OldK h h' := by
  refine ⟨fun b o e => ?_, fun b o e => ?_⟩
  · by_cases hb : b ∈ tabs.map (·.2)
    · obtain ⟨q, hq, rfl⟩ := List.mem_map.mp hb
      obtain ⟨C, e0⟩ := hT q hq
      obtain ⟨vs, e1⟩ := x _ hb
      obtain rfl := Option.some.inj (e.symm.trans e0)
      exact tab_old C e0 e1
    · exact .inl (k b o (ghost_ne e hb))
  · by_cases hb : b ∈ tabs.map (·.2)
    · obtain ⟨vs, e1⟩ := x _ hb
      exact ⟨_, e1⟩
    · exact ⟨o, k b o (ghost_ne e hb)⟩
theorem loose_is : looseW view39 looseL ++ (recsOf view39).map (·.name) ++ (litsOf view39).map (·.1) ++ (clssOf view39 (looseW view39 looseL)).map (·.name) = looseG := by kernel_rfl
theorem fin_law : PySem.Challenge.rw_in0045_01.Holds := by
  refine hd_of (by rfl) (by rfl) (by rfl) (by w_witness2) ?_
  intro w s₀ s₁ mg mb G Y fa o pm cd doc dV kV ho hd hcd hD hmg hg args vals as hpre hlay hrd hwl hlo
  refine Ground.open G ?_
  intro T B D TE TW
  obtain ⟨⟨KX, tabs⟩, b0, b4⟩ := Y
  replace KX : (Mine.heap39 w.params).In s₁.heap := KX
  have hfa : (Value.ref fa) = .ref 147 := Option.some.inj (hmg.symm.trans (mg_of KX T.g (by kernel_rfl)))
  injection hfa with hfa
  subst hfa
  clear ho hd hcd hD hmg B D TE TW G
  wrow_args hpre hlay hrd hwl hlo
  rename_i ns _ _ _ _ _ _ _ ls vs _ hL _ _ _ hI _ hn _
  have TA : TabsAt [(146, 144), (122, 118), (89, 85)] s₁.heap := by
    intro q hq
    simp only [List.mem_cons, List.not_mem_nil, or_false] at hq
    rcases hq with rfl | rfl | rfl
    · exact ⟨codeHd_of_K KX (by kernel_rfl), tabs 144 (by decide)⟩
    · exact ⟨codeHd_of_K KX (by kernel_rfl), tabs 118 (by decide)⟩
    · exact ⟨codeHd_of_K KX (by kernel_rfl), tabs 85 (by decide)⟩
  have T' : Top topProg looseG (ExcName.means s₀.heap) mg mb (ghostOf s₁.heap [(146, 144), (122, 118), (89, 85)]) := loose_is ▸ ghost_top TA T
  show wpAny (model PySem.Challenge.rw_in0045_01.row.prog w) callerA (call (.ref 147) [.ref ls]) _ _ _
  refine wpAny_call ?_
  refine code_lower (d := 305) (u := 50) (fr := []) rfl (by decide +kernel) rfl (by decide +kernel) ?_
  refine law_spec w (ExcName.means s₀.heap) mg mb ls vs ns (ghostOf s₁.heap [(146, 144), (122, 118), (89, 85)]) (ghostOf s₁.heap [(146, 144), (122, 118), (89, 85)]) s₁ _ rfl (TA _ (.head _)).2 (TA _ (.tail _ (.head _))).2 (TA _ (.tail _ (.tail _ (.head _)))).2
    (ghost_get TA b0 (by intro e; cases e)) (ghost_get TA b4 (by intro e; cases e)) (ghost_list TA hL) hI (by omega) ⟨rfl, fun _ _ e => e, trivial⟩ (ghost_K TA KX (by kernel_rfl)) T' ?_
  intro h' tk' k tb
  refine ⟨.inl ⟨.bool true, .bool true, [], rfl, raisesW_false (by wrow_none_raised), .bool true, ?post, unshared_nil⟩, oldK_of TA k tb, rfl, AllBare.of_eq hg⟩
  (case post => wrow_post)
end
end
end Mine
theorem PySem.Challenge.cw_in0045_01_holds : PySem.Challenge.rw_in0045_01.Holds :=
  Mine.fin_law
