import PyProof.Rows.All
import Wide.All
import OpenK.AllK
import Wide.FinOn
import Lean
import PySem.Challenge.RW_rl0098_01

section
open PySem PySem.W PyProof.Rows
set_option Elab.async false
set_option maxRecDepth 100000
set_option linter.unusedVariables false
set_option autoImplicit false
set_option genSizeOf false
set_option genInjectivity false
namespace Mine

/- pure values -/
inductive PV where
  | none
  | bool (b : Bool)
  | int (i : Int)
  | str (l : List Nat)
  | list (l : List PV)
  | tup (l : List PV)
  | obj (ns : List Str) (l : List PV)
  | rng (a b : Int)
  | raw (a : Addr) (o : Obj)
  deriving Inhabited

noncomputable abbrev Mut := Addr → Prop
noncomputable abbrev listObj (vs : List Value) (n : Nat) : Obj := { cls := .type "list", data := .seq vs.toArray n }
noncomputable abbrev tupObj (vs : List Value) : Obj := { cls := .type "tuple", data := .seq vs.toArray }
noncomputable abbrev txt (l : List Nat) : Str := ⟨⟨l⟩⟩

/- the fixed surroundings: the program, the world, the heap at the law's call, the class -/
structure Cx where
  prog : Program
  w : World
  h1 : Heap
  C : Addr

mutual
/- heap h bears the pure value at a value, away from the mutable places M -/
inductive R (c : Cx) (h : Heap) (M : Mut) : PV → Value → Prop
  | none : R c h M .none .none
  | bool (b : Bool) : R c h M (.bool b) (.bool b)
  | int (i : Int) (t : Tok) : R c h M (.int i) (.int i t)
  | str (l : List Nat) (t : Tok) : R c h M (.str l) (.str (txt l) t)
  | list {a : Addr} {l : List PV} {vs : List Value} {n : Nat} : ¬ M a → h.get? a = some (listObj vs n) → Rs c h M l vs → R c h M (.list l) (.ref a)
  | tup {a : Addr} {l : List PV} {vs : List Value} : ¬ M a → h.get? a = some (tupObj vs) → Rs c h M l vs → R c h M (.tup l) (.ref a)
  | obj {a d : Addr} {o : Obj} {ns : List Str} {l : List PV} {vs : List Value} {m : Str → Option Value} : ¬ M a → ¬ M d → d ≠ a → h.get? a = some o → o.cls = .ref c.C → o.dict = some d → (∀ k, o.data ≠ .cls k) → h.Ns1 d m →
      (∀ x, m x = (ns.zip vs).lookup x) → Rs c h M l vs → R c h M (.obj ns l) (.ref a)
  | rng {r : Addr} {a b : Int} {t u v : Tok} : ¬ M r → IsRange h r a b 1 t u v → R c h M (.rng a b) (.ref r)
  | raw {a : Addr} {o : Obj} : ¬ M a → h.get? a = some o → R c h M (.raw a o) (.ref a)
inductive Rs (c : Cx) (h : Heap) (M : Mut) : List PV → List Value → Prop
  | nil : Rs c h M [] []
  | cons {p : PV} {v : Value} {l : List PV} {vs : List Value} : R c h M p v → Rs c h M l vs → Rs c h M (p :: l) (v :: vs)
end

noncomputable def Keep (h h' : Heap) : Prop := ∀ b o, h.get? b = some o → h'.get? b = some o

theorem R.mono {c : Cx} {h h' : Heap} {M M' : Mut} (hk : ∀ b o, ¬ M b → h.get? b = some o → h'.get? b = some o) (hm : ∀ b o, h.get? b = some o → M' b → M b) {p : PV} {v : Value} (x : R c h M p v) : R c h' M' p v :=
  R.rec (motive_1 := fun p v _ => R c h' M' p v) (motive_2 := fun l vs _ => Rs c h' M' l vs) .none .bool .int .str
    (fun ha hg _ ih => .list (fun x => ha (hm _ _ hg x)) (hk _ _ ha hg) ih) (fun ha hg _ ih => .tup (fun x => ha (hm _ _ hg x)) (hk _ _ ha hg) ih)
    (fun ha hd hda hg hc hdc hnc hn hx _ ih => .obj (fun x => ha (hm _ _ hg x)) (fun x => hd (let ⟨_, _, _, g, _⟩ := hn; hm _ _ g x)) hda (hk _ _ ha hg) hc hdc hnc (hn.at fun o e => hk _ _ hd e) hx ih)
    (fun ha hg => .rng (fun x => ha (hm _ _ hg x)) (hk _ _ ha hg)) (fun ha hg => .raw (fun x => ha (hm _ _ hg x)) (hk _ _ ha hg)) .nil (fun _ _ ih1 ih2 => .cons ih1 ih2) x
/- induction over values side by side -/
theorem Rs.ind {c : Cx} {h : Heap} {M : Mut} {P : List PV → List Value → Prop} (hn : P [] []) (hc : ∀ {p : PV} {v : Value} {l : List PV} {vs : List Value}, R c h M p v → Rs c h M l vs → P l vs → P (p :: l) (v :: vs)) {l : List PV} {vs : List Value} (x : Rs c h M l vs) : P l vs :=
  Rs.rec (motive_1 := fun _ _ _ => True) (motive_2 := fun l vs _ => P l vs) trivial (fun _ => trivial) (fun _ _ => trivial) (fun _ _ => trivial) (fun _ _ _ _ => trivial) (fun _ _ _ _ => trivial) (fun _ _ _ _ _ _ _ _ _ _ _ => trivial) (fun _ _ => trivial) (fun _ _ => trivial)
    hn (fun h1 h2 _ ih => hc h1 h2 ih) x
theorem Rs.mono {c : Cx} {h h' : Heap} {M M' : Mut} (hk : ∀ b o, ¬ M b → h.get? b = some o → h'.get? b = some o) (hm : ∀ b o, h.get? b = some o → M' b → M b) {l : List PV} {vs : List Value} (x : Rs c h M l vs) : Rs c h' M' l vs :=
  x.ind .nil fun h1 _ ih => .cons (h1.mono hk hm) ih

theorem R.int_inv {c : Cx} {h : Heap} {M : Mut} {i : Int} {v : Value} (r : R c h M (.int i) v) : ∃ t, v = .int i t := by cases r; exact ⟨_, rfl⟩
theorem R.str_inv {c : Cx} {h : Heap} {M : Mut} {l : List Nat} {v : Value} (r : R c h M (.str l) v) : ∃ t, v = .str (txt l) t := by cases r; exact ⟨_, rfl⟩
theorem R.bool_inv {c : Cx} {h : Heap} {M : Mut} {b : Bool} {v : Value} (r : R c h M (.bool b) v) : v = .bool b := by cases r; rfl
theorem R.none_inv {c : Cx} {h : Heap} {M : Mut} {v : Value} (r : R c h M .none v) : v = .none := by cases r; rfl
theorem Rs.one_inv {c : Cx} {h : Heap} {M : Mut} {p : PV} {vs : List Value} (r : Rs c h M [p] vs) : ∃ v, vs = [v] ∧ R c h M p v := by cases r with | cons h1 h2 => cases h2; exact ⟨_, rfl, h1⟩
theorem Rs.two_inv {c : Cx} {h : Heap} {M : Mut} {p q : PV} {vs : List Value} (r : Rs c h M [p, q] vs) : ∃ v u, vs = [v, u] ∧ R c h M p v ∧ R c h M q u := by cases r with | cons h1 h2 => cases h2 with | cons h2 h3 => cases h3; exact ⟨_, _, rfl, h1, h2⟩
theorem Rs.length {c : Cx} {h : Heap} {M : Mut} {l : List PV} {vs : List Value} (x : Rs c h M l vs) : vs.length = l.length := x.ind (P := fun l vs => vs.length = l.length) rfl fun _ _ ih => congrArg Nat.succ ih
theorem Rs.get {c : Cx} {h : Heap} {M : Mut} {l : List PV} {vs : List Value} (x : Rs c h M l vs) : ∀ (i : Nat) (p : PV), l[i]? = some p → ∃ v, vs[i]? = some v ∧ R c h M p v :=
  x.ind (P := fun l vs => ∀ (i : Nat) (p : PV), l[i]? = some p → ∃ v, vs[i]? = some v ∧ R c h M p v) (fun i p e => by cases i <;> cases e) fun h1 _ ih i p e => by
    cases i with
    | zero => cases e; exact ⟨_, rfl, h1⟩
    | succ i => exact ih i p e
theorem Rs.append {c : Cx} {h : Heap} {M : Mut} {l l' : List PV} {vs vs' : List Value} (x : Rs c h M l vs) (y : Rs c h M l' vs') : Rs c h M (l ++ l') (vs ++ vs') := x.ind (P := fun l vs => Rs c h M (l ++ l') (vs ++ vs')) y fun h1 _ ih => .cons h1 ih
theorem Rs.set {c : Cx} {h : Heap} {M : Mut} {p : PV} {v : Value} (hp : R c h M p v) {l : List PV} {vs : List Value} (i : Nat) (x : Rs c h M l vs) : Rs c h M (l.set i p) (vs.set i v) :=
  x.ind (P := fun l vs => ∀ i, Rs c h M (l.set i p) (vs.set i v)) (fun _ => .nil) (fun h1 h2 ih i => by
    cases i with
    | zero => exact .cons hp h2
    | succ i => exact .cons h1 (ih i)) i
theorem Rs.reverse {c : Cx} {h : Heap} {M : Mut} {l : List PV} {vs : List Value} (x : Rs c h M l vs) : Rs c h M l.reverse vs.reverse :=
  x.ind (P := fun l vs => Rs c h M l.reverse vs.reverse) .nil fun h1 _ ih => by rw [List.reverse_cons, List.reverse_cons]; exact ih.append (.cons h1 .nil)

/- a state that a pure step leaves: all objects kept -/
structure Ex (s s' : Shared) : Prop where
  keep : Keep s.heap s'.heap
  os : s'.os = s.os
  toks : s.toks ≤ s'.toks
  bare : AllBare s.gens → AllBare s'.gens
  gens : ∀ (i : Nat) (x : GenState), s.gens[i]? = some x → s'.gens[i]? = some x

theorem Ex.refl (s : Shared) : Ex s s := ⟨fun _ _ e => e, rfl, Nat.le_refl _, id, fun _ _ e => e⟩
theorem Ex.trans {s s' s'' : Shared} (x : Ex s s') (y : Ex s' s'') : Ex s s'' :=
  ⟨fun b o e => y.keep b o (x.keep b o e), y.os.trans x.os, Nat.le_trans x.toks y.toks, fun h => y.bare (x.bare h), fun i z e => y.gens i z (x.gens i z e)⟩
theorem Ex.tok (s : Shared) (k : Nat) (hk : s.toks ≤ k) : Ex s { s with toks := k } := ⟨fun _ _ e => e, rfl, hk, id, fun _ _ e => e⟩
theorem Ex.push (s : Shared) (o : Obj) : Ex s { s with heap := s.heap.push o } :=
  ⟨fun _ _ e => Heap.get?_push_of_some _ e, rfl, Nat.le_refl _, id, fun _ _ e => e⟩

theorem R.ex {c : Cx} {s s' : Shared} {M : Mut} {p : PV} {v : Value} (x : R c s.heap M p v) (e : Ex s s') : R c s'.heap M p v := x.mono (fun b o _ => e.keep b o) fun _ _ _ m => m
theorem Rs.ex {c : Cx} {s s' : Shared} {M : Mut} {p : List PV} {v : List Value} (x : Rs c s.heap M p v) (e : Ex s s') : Rs c s'.heap M p v := x.mono (fun b o _ => e.keep b o) fun _ _ _ m => m

/- a name's binding: a value that is never changed, or a list of the frame's own -/
inductive Bd where
  | val (p : PV)
  | own (l : List PV)
noncomputable abbrev Rho := List (Str × Bd)

noncomputable def Slot (c : Cx) (h : Heap) (Mo M : Mut) : Option Bd → Option Value → Prop
  | none, _ => True
  | some (.val p), ov => ∃ v, ov = some v ∧ R c h M p v
  | some (.own l), ov => ∃ a vs n, ov = some (.ref a) ∧ M a ∧ ¬ Mo a ∧ h.get? a = some (listObj vs n) ∧ Rs c h M l vs

theorem Slot.mono {c : Cx} {h h' : Heap} {Mo M M' : Mut} (hk : ∀ b o, ¬ M b → h.get? b = some o → h'.get? b = some o) (hm : ∀ b o, h.get? b = some o → M' b → M b) {b : Option Bd} {ov : Option Value}
    (ho : ∀ l a o, b = some (.own l) → ov = some (.ref a) → M a → ¬ Mo a → h.get? a = some o → M' a ∧ h'.get? a = some o) (x : Slot c h Mo M b ov) : Slot c h' Mo M' b ov := by
  cases b with
  | none => exact trivial
  | some bd =>
    cases bd with
    | val p => obtain ⟨v, e, r⟩ := x; exact ⟨v, e, r.mono hk hm⟩
    | own l =>
      obtain ⟨a, vs, n, e, m, mo, g, r⟩ := x
      obtain ⟨m', g'⟩ := ho l a _ rfl e m mo g
      exact ⟨a, vs, n, e, m', mo, g', r.mono hk hm⟩

/- a block: its table of names, and which of its cells are its own -/
structure Blk where
  scope : Scope
  oc : List Str

/- an object that no store of the frame's touches -/
noncomputable def Held (L a : Addr) (o : Obj) : Prop := a ≠ L ∧ (∀ v, o.data ≠ .cell v) ∧ ∀ xs n, o.data ≠ .seq xs n
/- the frame: names as ρ says, s₀ the state at its entry, Mo the callers' mutable places, M all mutable places -/
structure Fm (c : Cx) (b : Blk) (env : Env) (ρ : Rho) (Mo : Mut) (s₀ : Shared) (K : List (Addr × Obj)) (M : Mut) (s : Shared) : Prop where
  scope : env.scope = b.scope
  kind : b.scope.kind = .function
  glob : env.globals = mainGlobals
  blt : env.builtins = builtinsNs
  base : Ex s₀ s
  h1 : Keep c.h1 s.heap
  h1M : ∀ a, M a → c.h1.get? a = none
  tok : 1 ≤ s.toks
  mo : ∀ a, Mo a → M a
  mlt : ∀ a, M a → ∃ o, s.heap.get? a = some o
  molt : ∀ a, Mo a → ∃ o, s₀.heap.get? a = some o
  mfresh : ∀ a, M a → ¬ Mo a → s₀.heap.get? a = none
  lM : M env.locals
  lMo : ¬ Mo env.locals
  ns : ∃ m, s.heap.Ns env.locals m ∧ (∀ x, b.scope.names.lookup x = some .local → Slot c s.heap Mo M (ρ.lookup x) (m x)) ∧
    ∀ x y a l l', x ≠ y → ρ.lookup x = some (.own l) → ρ.lookup y = some (.own l') → m x = some (.ref a) → m y = some (.ref a) → False
  ownl : ∀ x l, ρ.lookup x = some (.own l) → b.scope.names.lookup x = some .local
  cells : ∀ x, (b.scope.names.lookup x = some .cell ∨ b.scope.names.lookup x = some .free) → ∃ a ov, env.cells.lookup x = some a ∧ M a ∧ s.heap.IsCell a ov ∧ Slot c s.heap Mo M (ρ.lookup x) ov
  cdist : env.cells.Pairwise fun x y => x.2 ≠ y.2
  cmo : ∀ x a, x ∈ b.oc → env.cells.lookup x = some a → ¬ Mo a
  prot : ∀ p ∈ K, s.heap.get? p.1 = some p.2 ∧ M p.1 ∧ Held env.locals p.1 p.2

theorem Fm.ex {c : Cx} {b : Blk} {env : Env} {ρ : Rho} {Mo M : Mut} {K : List (Addr × Obj)} {s₀ s s' : Shared} (F : Fm c b env ρ Mo s₀ K M s) (e : Ex s s') : Fm c b env ρ Mo s₀ K M s' where
  scope := F.scope
  kind := F.kind
  glob := F.glob
  blt := F.blt
  base := F.base.trans e
  h1 := fun b o x => e.keep b o (F.h1 b o x)
  h1M := F.h1M
  tok := Nat.le_trans F.tok e.toks
  mo := F.mo
  mlt := fun a m => (F.mlt a m).imp fun o g => e.keep a o g
  molt := F.molt
  mfresh := F.mfresh
  lM := F.lM
  lMo := F.lMo
  ns := by
    obtain ⟨m, h1, h2, h3⟩ := F.ns
    exact ⟨m, h1.keeps e.keep, fun x hx => (h2 x hx).mono (fun b o _ => e.keep b o) (fun _ _ _ z => z) (fun _ a o _ _ z _ g => ⟨z, e.keep _ _ g⟩), h3⟩
  ownl := F.ownl
  cells := fun x hx => by
    obtain ⟨a, ov, h1, h2, h3, h4⟩ := F.cells x hx
    exact ⟨a, ov, h1, h2, h3.keeps e.keep, h4.mono (fun b o _ => e.keep b o) (fun _ _ _ z => z) (fun _ a o _ _ z _ g => ⟨z, e.keep _ _ g⟩)⟩
  cdist := F.cdist
  cmo := F.cmo
  prot := fun p hp => ⟨e.keep _ _ (F.prot p hp).1, (F.prot p hp).2⟩

/- room on the stack for d calls within one another -/
structure Room (d : Nat) (A : Around) : Prop where
  handled : A.handled = none
  depth : A.depth + 8 * d < recursionLimit
  units : A.units + 60 * d + 100 < cLine

noncomputable abbrev W {α : Type} (c : Cx) (A : Around) (t : Sem α) (Q : α → Shared → Prop) (s : Shared) : Prop := wpAny (model c.prog c.w) A t Q (fun _ _ => False) s

structure Eval (c : Cx) (b : Blk) (d : Nat) (e : Expr) (ρ : Rho) (p : PV) : Prop where
  run : ∀ (A : Around) (env : Env) (Mo : Mut) (s₀ : Shared) (K : List (Addr × Obj)) (M : Mut) (s : Shared) (Q : Value → Shared → Prop), Room d A → Fm c b env ρ Mo s₀ K M s →
    (∀ v s', Ex s s' → R c s'.heap M p v → Q v s') → W c A (eval e env) Q s

/- frozen values stay -/
noncomputable def Pres (c : Cx) (M : Mut) (s : Shared) (M' : Mut) (s' : Shared) : Prop := ∀ q u, R c s.heap M q u → R c s'.heap M' q u
theorem Pres.refl (c : Cx) (M : Mut) (s : Shared) : Pres c M s M s := fun _ _ r => r
theorem Pres.trans {c : Cx} {M M' M'' : Mut} {s s' s'' : Shared} (x : Pres c M s M' s') (y : Pres c M' s' M'' s'') : Pres c M s M'' s'' := fun q u r => y q u (x q u r)
theorem Pres.ex {c : Cx} {M : Mut} {s s' : Shared} (e : Ex s s') : Pres c M s M s' := fun _ _ r => r.ex e

inductive Fl where
  | next | brk | cont
  | ret (p : PV)
noncomputable def FlR (c : Cx) (h : Heap) (M : Mut) : Fl → Flow → Prop
  | .next, f => f = .next
  | .brk, f => f = .brk
  | .cont, f => f = .cont
  | .ret p, f => ∃ v, f = .ret v ∧ R c h M p v

structure Exec (c : Cx) (b : Blk) (d : Nat) (ss : List Stmt) (ρ : Rho) (f : Fl) (ρ' : Rho) : Prop where
  run : ∀ (A : Around) (env : Env) (Mo : Mut) (s₀ : Shared) (K : List (Addr × Obj)) (M : Mut) (s : Shared) (Q : Flow → Shared → Prop), Room d A → Fm c b env ρ Mo s₀ K M s →
    (∀ fl s' M', Fm c b env ρ' Mo s₀ K M' s' → Pres c M s M' s' → FlR c s'.heap M' f fl → Q fl s') → W c A (execs ss env) Q s
structure Exec1 (c : Cx) (b : Blk) (d : Nat) (st : Stmt) (ρ : Rho) (f : Fl) (ρ' : Rho) : Prop where
  run : ∀ (A : Around) (env : Env) (Mo : Mut) (s₀ : Shared) (K : List (Addr × Obj)) (M : Mut) (s : Shared) (Q : Flow → Shared → Prop), Room d A → Fm c b env ρ Mo s₀ K M s →
    (∀ fl s' M', Fm c b env ρ' Mo s₀ K M' s' → Pres c M s M' s' → FlR c s'.heap M' f fl → Q fl s') → W c A (exec st env) Q s

theorem exec_nil {c : Cx} {b : Blk} {d : Nat} {ρ : Rho} : Exec c b d [] ρ .next ρ := .mk fun _ _ _ _ _ _ _ _ _ F h => wpAny_execs_nil (h _ _ _ F (Pres.refl _ _ _) rfl)
theorem exec_cons {c : Cx} {b : Blk} {d : Nat} {st : Stmt} {ss : List Stmt} {ρ ρ₁ ρ' : Rho} {f : Fl} (h1 : Exec1 c b d st ρ .next ρ₁) (h2 : Exec c b d ss ρ₁ f ρ') : Exec c b d (st :: ss) ρ f ρ' :=
  .mk fun A env Mo s₀ K M s Q hR F h => by
    refine wpAny_execs_cons (h1.run A env Mo s₀ K M s _ hR F fun fl s' M' F' hp hf => ?_)
    have : fl = .next := hf
    subst this
    exact h2.run A env Mo s₀ K M' s' Q hR F' fun fl s'' M'' F'' hp' hf' => h fl s'' M'' F'' (hp.trans hp') hf'
theorem exec_stop {c : Cx} {b : Blk} {d : Nat} {st : Stmt} {ss : List Stmt} {ρ ρ' : Rho} {f : Fl} (h1 : Exec1 c b d st ρ f ρ') (hf : f ≠ .next) : Exec c b d (st :: ss) ρ f ρ' :=
  .mk fun A env Mo s₀ K M s Q hR F h => by
    refine wpAny_execs_cons (h1.run A env Mo s₀ K M s _ hR F fun fl s' M' F' hp hf' => ?_)
    have q := h fl s' M' F' hp hf'
    cases f with
    | next => exact absurd rfl hf
    | brk => have : fl = .brk := hf'; subst this; exact q
    | cont => have : fl = .cont := hf'; subst this; exact q
    | ret p => obtain ⟨v, e, _⟩ := hf'; subst e; exact q
end Mine
end

section
open PySem PySem.W PyProof.Rows
set_option Elab.async false
set_option maxRecDepth 100000
set_option linter.unusedVariables false
set_option autoImplicit false
namespace Mine

noncomputable def rset : Rho → Str → Bd → Rho
  | [], x, v => [(x, v)]
  | (y, w) :: r, x, v => if x == y then (y, v) :: r else (y, w) :: rset r x v
theorem rset_lookup (ρ : Rho) (x : Str) (v : Bd) (y : Str) : (rset ρ x v).lookup y = if y = x then some v else ρ.lookup y := by
  induction ρ with
  | nil =>
    simp only [rset, List.lookup_cons, List.lookup_nil]
    by_cases h : y = x
    · subst h; simp
    · simp [h, beq_eq_false_iff_ne.mpr h]
  | cons p r ih =>
    obtain ⟨z, w⟩ := p
    simp only [rset]
    by_cases hx : x = z
    · subst hx
      simp only [beq_self_eq_true, if_true, List.lookup_cons]
      by_cases h : y = x
      · subst h; simp
      · simp [h, beq_eq_false_iff_ne.mpr h]
    · rw [if_neg (by simpa using hx)]
      simp only [List.lookup_cons, ih]
      by_cases h : y = z
      · subst h
        have : ¬ y = x := fun e => hx e.symm
        simp [this]
      · simp [beq_eq_false_iff_ne.mpr h]

section
variable {c : Cx} {b : Blk} {env : Env} {ρ : Rho} {Mo M : Mut} {K : List (Addr × Obj)} {s₀ s : Shared}

theorem Fm.kindOf (F : Fm c b env ρ Mo s₀ K M s) (x : Str) : env.kindOf x = b.scope.names.lookup x := by unfold Env.kindOf; rw [F.scope]
theorem Fm.kd (F : Fm c b env ρ Mo s₀ K M s) : env.scope.kind = .function := by rw [F.scope]; exact F.kind
theorem Fm.ne_old (F : Fm c b env ρ Mo s₀ K M s) {a : Addr} (ha : M a) (hmo : ¬ Mo a) {z : Addr} {o : Obj} (e : s₀.heap.get? z = some o) : z ≠ a := by
  rintro rfl
  rw [F.mfresh _ ha hmo] at e; cases e

/- one mutable object of the frame's own has changed -/
theorem Fm.baseSame (F : Fm c b env ρ Mo s₀ K M s) {a : Addr} {h' : Heap} {k : Nat} (ha : M a) (hmo : ¬ Mo a) (hs : Heap.SameBut a s.heap h') (hk : s.toks ≤ k) :
    Ex s₀ { s with heap := h', toks := k } :=
  ⟨fun z o e => (hs.2 z (F.ne_old ha hmo e)).trans (F.base.keep z o e), F.base.os, Nat.le_trans F.base.toks hk, F.base.bare, F.base.gens⟩
theorem Fm.h1Same (F : Fm c b env ρ Mo s₀ K M s) {a : Addr} {h' : Heap} (ha : M a) (hs : Heap.SameBut a s.heap h') : Keep c.h1 h' :=
  fun z o e => (hs.2 z (by rintro rfl; rw [F.h1M _ ha] at e; cases e)).trans (F.h1 z o e)
theorem Fm.liveSame (F : Fm c b env ρ Mo s₀ K M s) {a : Addr} {h' : Heap} (hs : Heap.SameBut a s.heap h') (hl : ∃ o, h'.get? a = some o) : ∀ z, M z → ∃ o, h'.get? z = some o := fun z mz => by
  by_cases e : z = a
  · subst e; exact hl
  · obtain ⟨o, g⟩ := F.mlt z mz; exact ⟨o, (hs.2 z e).trans g⟩
theorem R.off {h : Heap} {a : Addr} {h' : Heap} {p : PV} {v : Value} (x : R c h M p v) (ha : M a) (hs : Heap.SameBut a h h') : R c h' M p v :=
  x.mono (fun z o hz e => (hs.2 z fun q => hz (q ▸ ha)).trans e) fun _ _ _ m => m
theorem Rs.off {h : Heap} {a : Addr} {h' : Heap} {p : List PV} {v : List Value} (x : Rs c h M p v) (ha : M a) (hs : Heap.SameBut a h h') : Rs c h' M p v :=
  x.mono (fun z o hz e => (hs.2 z fun q => hz (q ▸ ha)).trans e) fun _ _ _ m => m

theorem ns_ne_cell {h : Heap} {L a : Addr} {m : Str → Option Value} {ov : Option Value} (hn : h.Ns L m) (hc : h.IsCell a ov) : L ≠ a := by
  rintro rfl
  obtain ⟨o, es, ep, ho, hd, _⟩ := hn
  obtain ⟨o', ho', hd'⟩ := hc
  rw [ho] at ho'; cases ho'; rw [hd] at hd'; cases hd'
theorem ns_ne_list {h : Heap} {L a : Addr} {m : Str → Option Value} {vs : List Value} {n : Nat} (hn : h.Ns L m) (hc : h.get? a = some (listObj vs n)) : L ≠ a := by
  rintro rfl
  obtain ⟨o, es, ep, ho, hd, _⟩ := hn
  rw [ho] at hc; cases hc; cases hd
theorem cell_ne_list {h : Heap} {L a : Addr} {ov : Option Value} {vs : List Value} {n : Nat} (hn : h.IsCell L ov) (hc : h.get? a = some (listObj vs n)) : L ≠ a := by
  rintro rfl
  obtain ⟨o, ho, hd⟩ := hn
  rw [ho] at hc; cases hc; cases hd

theorem ns_ne_fields {h : Heap} {L a : Addr} {m : Str → Option Value} {o : Obj} (hn : h.Ns L m) (hc : h.get? a = some o) (hf : ∃ vs, o.data = .fields vs) : L ≠ a := by
  rintro rfl
  obtain ⟨o', es, ep, ho, hd, _⟩ := hn
  obtain ⟨vs, hv⟩ := hf
  rw [ho] at hc; cases hc; rw [hd] at hv; cases hv
theorem cell_ne_fields {h : Heap} {L a : Addr} {ov : Option Value} {o : Obj} (hn : h.IsCell L ov) (hc : h.get? a = some o) (hf : ∃ vs, o.data = .fields vs) : L ≠ a := by
  rintro rfl
  obtain ⟨o', ho, hd⟩ := hn
  obtain ⟨vs, hv⟩ := hf
  rw [ho] at hc; cases hc; rw [hd] at hv; cases hv
theorem list_ne_fields {h : Heap} {L a : Addr} {vs : List Value} {n : Nat} {o : Obj} (hn : h.get? L = some (listObj vs n)) (hc : h.get? a = some o) (hf : ∃ vs, o.data = .fields vs) : L ≠ a := by
  rintro rfl
  obtain ⟨vs, hv⟩ := hf
  rw [hn] at hc; cases hc; cases hv

theorem Held.ofFields {h : Heap} {L a : Addr} {m : Str → Option Value} {o : Obj} (hn : h.Ns L m) (hc : h.get? a = some o) (hf : ∃ vs, o.data = .fields vs) : Held L a o :=
  have hd := hf
  ⟨(ns_ne_fields hn hc hf).symm, (fun v e => by obtain ⟨vs, hv⟩ := hd; rw [hv] at e; cases e), (fun xs n e => by obtain ⟨vs, hv⟩ := hd; rw [hv] at e; cases e)⟩
theorem ns_ne_held {L a : Addr} {o : Obj} (hf : Held L a o) : L ≠ a := hf.1.symm
theorem cell_ne_held {h : Heap} {K L a : Addr} {ov : Option Value} {o : Obj} (hn : h.IsCell L ov) (hc : h.get? a = some o) (hf : Held K a o) : L ≠ a := by
  rintro rfl
  obtain ⟨o', ho, hd⟩ := hn
  rw [ho] at hc; cases hc; exact hf.2.1 _ hd
theorem list_ne_held {h : Heap} {K L a : Addr} {vs : List Value} {n : Nat} {o : Obj} (hn : h.get? L = some (listObj vs n)) (hc : h.get? a = some o) (hf : Held K a o) : L ≠ a := by
  rintro rfl
  rw [hn] at hc; cases hc; exact hf.2.2 _ _ rfl

/- a slot that stands where another object has changed -/
theorem Slot.off {h h' : Heap} {a : Addr} {bd : Option Bd} {ov : Option Value} (x : Slot c h Mo M bd ov) (ha : M a) (hs : Heap.SameBut a h h')
    (hne : ∀ l z vs n, bd = some (.own l) → ov = some (.ref z) → h.get? z = some (listObj vs n) → z ≠ a) : Slot c h' Mo M bd ov := by
  cases bd with
  | none => exact trivial
  | some bd =>
    cases bd with
    | val p => obtain ⟨v, e, r⟩ := x; exact ⟨v, e, r.off ha hs⟩
    | own l => obtain ⟨z, vs, n, e, m, mo, g, r⟩ := x; exact ⟨z, vs, n, e, m, mo, (hs.2 z (hne l z vs n rfl e g)).trans g, r.off ha hs⟩

/- a store leaves all but the frame's names and cells -/
noncomputable def Stay (env : Env) (s s' : Shared) : Prop := ∀ z o, s.heap.get? z = some o → z ≠ env.locals → ((∀ v, o.data ≠ .cell v) ∨ ∀ x, env.cells.lookup x ≠ some z) → s'.heap.get? z = some o
theorem Stay.trans {env : Env} {s s' s'' : Shared} (x : Stay env s s') (y : Stay env s' s'') : Stay env s s'' := fun z o h1 h2 h3 => y z o (x z o h1 h2 h3) h2 h3
theorem Stay.refl (env : Env) (s : Shared) : Stay env s s := fun _ _ h _ _ => h
theorem Stay.ex {env : Env} {s s' : Shared} (e : Ex s s') : Stay env s s' := fun z o h _ _ => e.keep z o h
theorem Fm.storeV' {A : Around} {x : Str} {p : PV} {v : Value} {Q : Unit → Shared → Prop} (F : Fm c b env ρ Mo s₀ K M s)
    (hk : b.scope.names.lookup x = some .local ∨ (b.scope.names.lookup x = some .cell ∧ x ∈ b.oc)) (hr : R c s.heap M p v)
    (h : ∀ s', Fm c b env (rset ρ x (.val p)) Mo s₀ K M s' → Pres c M s M s' → Stay env s s' → Q () s') : W c A (storeName env x v) Q s := by
  obtain ⟨m, hns, hsl, hdis⟩ := F.ns
  rcases hk with hk | ⟨hk, hoc⟩
  · refine wpAny_storeName_local (by rw [F.kindOf, hk]) hns (fun h' hn hs => ?_) (by rw [F.kd]; rfl)
    have hL := F.lM
    obtain ⟨oL, _, _, h'live, _⟩ := id hn
    refine h _ ?_ (fun q u r => r.off hL hs) fun z o e hz _ => (hs.2 z hz).trans e
    exact {
      scope := F.scope, kind := F.kind, glob := F.glob, blt := F.blt
      base := F.baseSame hL F.lMo hs (Nat.le_succ _)
      h1 := F.h1Same hL hs
      h1M := F.h1M
      tok := Nat.le_trans F.tok (Nat.le_succ _)
      mo := F.mo
      mlt := F.liveSame hs ⟨_, h'live⟩
      molt := F.molt, mfresh := F.mfresh, lM := F.lM, lMo := F.lMo
      ns := by
        refine ⟨_, hn, fun y hy => ?_, fun y z a l l' hyz h1 h2 h3 h4 => ?_⟩
        · rw [rset_lookup]
          by_cases e : y = x
          · subst e; simp only [if_true]; exact ⟨v, rfl, hr.off hL hs⟩
          · simp only [e, if_false]; exact (hsl y hy).off hL hs fun l z vs n _ _ g => (ns_ne_list hns g).symm
        · rw [rset_lookup] at h1 h2
          by_cases e1 : y = x
          · simp [e1] at h1
          · by_cases e2 : z = x
            · simp [e2] at h2
            · simp only [e1, e2, if_false] at h1 h2 h3 h4; exact hdis y z a l l' hyz h1 h2 h3 h4
      ownl := fun y l hy => by
        rw [rset_lookup] at hy
        by_cases e1 : y = x
        · simp [e1] at hy
        · simp only [e1, if_false] at hy; exact F.ownl y l hy
      cells := fun y hy => by
        obtain ⟨a, ov, h1, h2, h3, h4⟩ := F.cells y hy
        refine ⟨a, ov, h1, h2, h3.sameBut hs (ns_ne_cell hns h3).symm, ?_⟩
        rw [rset_lookup]
        by_cases e : y = x
        · subst e; rw [hk] at hy; rcases hy with hy | hy <;> cases hy
        · simp only [e, if_false]; exact h4.off hL hs fun l z vs n _ _ g => (ns_ne_list hns g).symm
      cdist := F.cdist, cmo := F.cmo
      prot := fun p hp => (by obtain ⟨h1, h2, h3⟩ := F.prot p hp; exact ⟨(hs.2 _ (ns_ne_held h3).symm).trans h1, h2, h3⟩) }
  · obtain ⟨a, ov, hlook, hMa, hcell, hslot⟩ := F.cells x (.inl hk)
    have hmo := F.cmo x a hoc hlook
    refine wpAny_storeName_cell F.kd (by rw [F.kindOf, hk]) hlook hcell fun h' hn hs => ?_
    obtain ⟨oL, h'live, _⟩ := id hn
    have e1 : ({ s with heap := h' } : Shared) = { s with heap := h', toks := s.toks } := rfl
    rw [e1]
    refine h _ ?_ (fun q u r => r.off hMa hs) fun z o e hz hc => (hs.2 z (by
      rintro rfl
      rcases hc with hc | hc
      · obtain ⟨o', g, gd⟩ := hcell; rw [g] at e; cases e; exact hc _ gd
      · exact hc _ hlook)).trans e
    exact {
      scope := F.scope, kind := F.kind, glob := F.glob, blt := F.blt
      base := F.baseSame hMa hmo hs (Nat.le_refl _)
      h1 := F.h1Same hMa hs
      h1M := F.h1M
      tok := F.tok
      mo := F.mo
      mlt := F.liveSame hs ⟨_, h'live⟩
      molt := F.molt, mfresh := F.mfresh, lM := F.lM, lMo := F.lMo
      ns := by
        refine ⟨m, hns.sameBut hs (ns_ne_cell hns hcell), fun y hy => ?_, fun y z a l l' hyz h1 h2 h3 h4 => ?_⟩
        · rw [rset_lookup]
          by_cases e : y = x
          · subst e; rw [hk] at hy; cases hy
          · simp only [e, if_false]; exact (hsl y hy).off hMa hs fun l z vs n _ _ g => (cell_ne_list hcell g).symm
        · rw [rset_lookup] at h1 h2
          by_cases e1 : y = x
          · simp [e1] at h1
          · by_cases e2 : z = x
            · simp [e2] at h2
            · simp only [e1, e2, if_false] at h1 h2 h3 h4; exact hdis y z a l l' hyz h1 h2 h3 h4
      ownl := fun y l hy => by
        rw [rset_lookup] at hy
        by_cases e1 : y = x
        · simp [e1] at hy
        · simp only [e1, if_false] at hy; exact F.ownl y l hy
      cells := fun y hy => by
        obtain ⟨a', ov', h1, h2, h3, h4⟩ := F.cells y hy
        rw [rset_lookup]
        by_cases e : y = x
        · subst e
          rw [hlook] at h1; cases h1
          exact ⟨a, some v, hlook, hMa, hn, by simp only [if_true]; exact ⟨v, rfl, hr.off hMa hs⟩⟩
        · have hne : a' ≠ a := by
            rintro rfl
            exact e (name_of_addr F.cdist (mem_of_lookup h1) (mem_of_lookup hlook))
          exact ⟨a', ov', h1, h2, h3.sameBut hs hne, by simp only [e, if_false]; exact h4.off hMa hs fun l z vs n _ _ g => (cell_ne_list hcell g).symm⟩
      cdist := F.cdist, cmo := F.cmo
      prot := fun p hp => (by obtain ⟨h1, h2, h3⟩ := F.prot p hp; exact ⟨(hs.2 _ (cell_ne_held hcell h1 h3).symm).trans h1, h2, h3⟩) }

theorem Fm.storeV {A : Around} {x : Str} {p : PV} {v : Value} {Q : Unit → Shared → Prop} (F : Fm c b env ρ Mo s₀ K M s)
    (hk : b.scope.names.lookup x = some .local ∨ (b.scope.names.lookup x = some .cell ∧ x ∈ b.oc)) (hr : R c s.heap M p v)
    (h : ∀ s', Fm c b env (rset ρ x (.val p)) Mo s₀ K M s' → Pres c M s M s' → Q () s') : W c A (storeName env x v) Q s :=
  F.storeV' hk hr fun s' F' hp _ => h s' F' hp
/- reading a name -/
theorem Fm.loadV {A : Around} {x : Str} {p : PV} {Q : Value → Shared → Prop} (F : Fm c b env ρ Mo s₀ K M s) (hx : ρ.lookup x = some (.val p))
    (hk : b.scope.names.lookup x = some .local ∨ b.scope.names.lookup x = some .cell ∨ (b.scope.names.lookup x = some .free ∧ (x == ("__classdict__" : Str)) = false))
    (h : ∀ v, R c s.heap M p v → Q v s) : W c A (loadName env x) Q s := by
  rcases hk with hk | hk | ⟨hk, hcd⟩
  · obtain ⟨m, hns, hsl, _⟩ := F.ns
    have := hsl x hk
    rw [hx] at this
    obtain ⟨v, e, r⟩ := this
    exact wpAny_loadName_local F.kd (by rw [F.kindOf, hk]) hns e (h v r)
  · obtain ⟨a, ov, h1, h2, h3, h4⟩ := F.cells x (.inl hk)
    rw [hx] at h4
    obtain ⟨v, e, r⟩ := h4
    subst e
    exact wpAny_loadName_cell F.kd (by rw [F.kindOf, hk]) h1 h3 (h v r)
  · obtain ⟨a, ov, h1, h2, h3, h4⟩ := F.cells x (.inr hk)
    rw [hx] at h4
    obtain ⟨v, e, r⟩ := h4
    subst e
    exact wpAny_loadName_free F.kd (by rw [F.kindOf, hk]) h1 h3 (h v r) hcd
end
end Mine
end

section
open PySem PySem.W PyProof.Rows
set_option Elab.async false
set_option maxRecDepth 100000
set_option linter.unusedVariables false
set_option autoImplicit false
namespace Mine

/- what a primitive may take for granted of the state -/
structure Base (c : Cx) (M : Mut) (s : Shared) : Prop where
  h1 : Keep c.h1 s.heap
  h1M : ∀ a, M a → c.h1.get? a = none
  tok : 1 ≤ s.toks
  mlt : ∀ a, M a → ∃ o, s.heap.get? a = some o
theorem Fm.toBase {c : Cx} {b : Blk} {env : Env} {ρ : Rho} {Mo M : Mut} {K : List (Addr × Obj)} {s₀ s : Shared} (F : Fm c b env ρ Mo s₀ K M s) : Base c M s := ⟨F.h1, F.h1M, F.tok, F.mlt⟩
theorem Base.ex {c : Cx} {M : Mut} {s s' : Shared} (B : Base c M s) (e : Ex s s') : Base c M s' :=
  ⟨fun b o x => e.keep b o (B.h1 b o x), B.h1M, Nat.le_trans B.tok e.toks, fun a m => let ⟨o, g⟩ := B.mlt a m; ⟨o, e.keep a o g⟩⟩
theorem Base.fresh {c : Cx} {M : Mut} {s : Shared} (B : Base c M s) : ¬ M s.heap.objs.size := fun h => let ⟨_, g⟩ := B.mlt _ h; Nat.lt_irrefl _ (Heap.lt_size g)

/- a primitive on values -/
structure Op (c : Cx) (d : Nat) (t : List Value → Sem Value) (args : List PV) (r : PV) : Prop where
  run : ∀ (A : Around) (M : Mut) (s : Shared) (vs : List Value) (Q : Value → Shared → Prop), Room d A → Base c M s → Rs c s.heap M args vs →
    (∀ v s', Ex s s' → R c s'.heap M r v → Q v s') → W c A (t vs) Q s
structure Op2 (c : Cx) (t : Value → Value → Sem Value) (p q r : PV) : Prop where
  run : ∀ (A : Around) (M : Mut) (s : Shared) (v u : Value) (Q : Value → Shared → Prop), Room 0 A → Base c M s → R c s.heap M p v → R c s.heap M q u →
    (∀ v s', Ex s s' → R c s'.heap M r v → Q v s') → W c A (t v u) Q s
structure Op1 (c : Cx) (t : Value → Sem Value) (p r : PV) : Prop where
  run : ∀ (A : Around) (M : Mut) (s : Shared) (v : Value) (Q : Value → Shared → Prop), Room 0 A → Base c M s → R c s.heap M p v →
    (∀ v s', Ex s s' → R c s'.heap M r v → Q v s') → W c A (t v) Q s
/- truth of a value -/
structure Tr (c : Cx) (p : PV) (t : Bool) : Prop where
  run : ∀ (A : Around) (M : Mut) (s : Shared) (v : Value) (Q : Bool → Shared → Prop), Room 0 A → Base c M s → R c s.heap M p v → (∀ s', Ex s s' → Q t s') → W c A (truthy v) Q s
theorem Room.zero {d : Nat} {A : Around} (h : Room d A) : Room 0 A := ⟨h.handled, by have := h.depth; lia, by have := h.units; lia⟩
theorem Room.le {d e : Nat} {A : Around} (h : Room d A) (hde : e ≤ d) : Room e A := ⟨h.handled, by have := h.depth; lia, by have := h.units; lia⟩

section
variable {c : Cx}
theorem ex1 (s : Shared) : Ex s { s with toks := s.toks + 1 } := Ex.tok _ _ (Nat.le_succ _)
theorem ex2 (s : Shared) : Ex s { s with toks := s.toks + 1 + 1 } := Ex.tok _ _ (by lia)

theorem op_add_int (a b : Int) : Op2 c (binaryOp .Add) (.int a) (.int b) (.int (a + b)) := .mk fun A M s v u Q _ _ h1 h2 h => by
  obtain ⟨t1, rfl⟩ := h1.int_inv; obtain ⟨t2, rfl⟩ := h2.int_inv; exact P.add_int (h _ _ (ex1 s) (.int _ _))
theorem op_sub_int (a b : Int) : Op2 c (binaryOp .Sub) (.int a) (.int b) (.int (a - b)) := .mk fun A M s v u Q _ _ h1 h2 h => by
  obtain ⟨t1, rfl⟩ := h1.int_inv; obtain ⟨t2, rfl⟩ := h2.int_inv; exact P.sub_int (h _ _ (ex1 s) (.int _ _))
theorem op_mul_int (a b : Int) (hm : IntMulOk a b) : Op2 c (binaryOp .Mult) (.int a) (.int b) (.int (a * b)) := .mk fun A M s v u Q _ _ h1 h2 h => by
  obtain ⟨t1, rfl⟩ := h1.int_inv; obtain ⟨t2, rfl⟩ := h2.int_inv; exact P.mul_int (h _ _ (ex1 s) (.int _ _)) hm
theorem op_iadd_int (a b : Int) : Op2 c (inplaceOp .Add) (.int a) (.int b) (.int (a + b)) := .mk fun A M s v u Q _ _ h1 h2 h => by
  obtain ⟨t1, rfl⟩ := h1.int_inv; obtain ⟨t2, rfl⟩ := h2.int_inv; exact P.iadd_int (h _ _ (ex1 s) (.int _ _))
theorem op_isub_int (a b : Int) : Op2 c (inplaceOp .Sub) (.int a) (.int b) (.int (a - b)) := .mk fun A M s v u Q _ _ h1 h2 h => by
  obtain ⟨t1, rfl⟩ := h1.int_inv; obtain ⟨t2, rfl⟩ := h2.int_inv; exact P.isub_int (h _ _ (ex1 s) (.int _ _))
theorem op_mod_int (a b : Int) (hb : b ≠ 0) : Op2 c (binaryOp .Mod) (.int a) (.int b) (.int (a.fmod b)) := .mk fun A M s v u Q _ _ h1 h2 h => by
  obtain ⟨t1, rfl⟩ := h1.int_inv; obtain ⟨t2, rfl⟩ := h2.int_inv; exact AutoIntOps.mod_1 (by simpa using hb) (h _ _ (ex1 s) (.int _ _))
theorem op_div_int (a b : Int) (hb : b ≠ 0) (hp : Builtin.divisionGoesByPylong a b = false) : Op2 c (binaryOp .FloorDiv) (.int a) (.int b) (.int (a.fdiv b)) := .mk fun A M s v u Q _ _ h1 h2 h => by
  obtain ⟨t1, rfl⟩ := h1.int_inv; obtain ⟨t2, rfl⟩ := h2.int_inv; exact AutoIntOps.floordiv_1 (by simpa using hb) (by rw [hp]; decide) (h _ _ (ex1 s) (.int _ _))
theorem op_neg_int (a : Int) : Op1 c (unaryOp .USub) (.int a) (.int (-a)) := .mk fun A M s v Q _ _ h1 h => by
  obtain ⟨t1, rfl⟩ := h1.int_inv; exact P.neg_int (h _ _ (ex1 s) (.int _ _))
theorem op_eq_int (a b : Int) : Op2 c (compareOp .Eq) (.int a) (.int b) (.bool (a == b)) := .mk fun A M s v u Q _ _ h1 h2 h => by
  obtain ⟨t1, rfl⟩ := h1.int_inv; obtain ⟨t2, rfl⟩ := h2.int_inv; exact P.eq_int (h _ _ (Ex.refl s) (.bool _))
theorem op_ne_int (a b : Int) : Op2 c (compareOp .NotEq) (.int a) (.int b) (.bool (a != b)) := .mk fun A M s v u Q _ _ h1 h2 h => by
  obtain ⟨t1, rfl⟩ := h1.int_inv; obtain ⟨t2, rfl⟩ := h2.int_inv; exact P.ne_int (h _ _ (Ex.refl s) (.bool _))
theorem op_lt_int (a b : Int) : Op2 c (compareOp .Lt) (.int a) (.int b) (.bool (decide (a < b))) := .mk fun A M s v u Q _ _ h1 h2 h => by
  obtain ⟨t1, rfl⟩ := h1.int_inv; obtain ⟨t2, rfl⟩ := h2.int_inv; exact P.lt_int (h _ _ (Ex.refl s) (.bool _))
theorem op_le_int (a b : Int) : Op2 c (compareOp .LtE) (.int a) (.int b) (.bool (decide (a ≤ b))) := .mk fun A M s v u Q _ _ h1 h2 h => by
  obtain ⟨t1, rfl⟩ := h1.int_inv; obtain ⟨t2, rfl⟩ := h2.int_inv; exact P.le_int (h _ _ (Ex.refl s) (.bool _))
theorem op_gt_int (a b : Int) : Op2 c (compareOp .Gt) (.int a) (.int b) (.bool (decide (a > b))) := .mk fun A M s v u Q _ _ h1 h2 h => by
  obtain ⟨t1, rfl⟩ := h1.int_inv; obtain ⟨t2, rfl⟩ := h2.int_inv; exact P.gt_int (h _ _ (Ex.refl s) (.bool _))
theorem op_ge_int (a b : Int) : Op2 c (compareOp .GtE) (.int a) (.int b) (.bool (decide (a ≥ b))) := .mk fun A M s v u Q _ _ h1 h2 h => by
  obtain ⟨t1, rfl⟩ := h1.int_inv; obtain ⟨t2, rfl⟩ := h2.int_inv; exact P.ge_int (h _ _ (Ex.refl s) (.bool _))
theorem op_eq_str (a b : List Nat) : Op2 c (compareOp .Eq) (.str a) (.str b) (.bool (a == b)) := .mk fun A M s v u Q _ _ h1 h2 h => by
  obtain ⟨t1, rfl⟩ := h1.str_inv; obtain ⟨t2, rfl⟩ := h2.str_inv; exact P.eq_str (h _ _ (Ex.refl s) (.bool _))
theorem op_notin_str (a b : List Nat) : Op2 c (compareOp .NotIn) (.str a) (.str b) (.bool (!Txt.contains (txt b) (txt a))) := .mk fun A M s v u Q _ _ h1 h2 h => by
  obtain ⟨t1, rfl⟩ := h1.str_inv; obtain ⟨t2, rfl⟩ := h2.str_inv; exact P.notIn_str (h _ _ (Ex.refl s) (.bool _))

/- identity of what has no place of its own -/
inductive IsB : PV → PV → Bool → Prop
  | bb (a b : Bool) : IsB (.bool a) (.bool b) (a == b)
  | nn : IsB .none .none true
  | inn (i : Int) : IsB (.int i) .none false
  | sn (l : List Nat) : IsB (.str l) .none false
  | bn (b : Bool) : IsB (.bool b) .none false
theorem op_is (p q : PV) (t : Bool) (ht : IsB p q t) : Op2 c (compareOp .Is) p q (.bool t) := .mk fun A M s v u Q _ _ h1 h2 h => by
  have hq := h (.bool t) s (Ex.refl s) (.bool t)
  cases ht with
  | bb a b => obtain rfl := h1.bool_inv; obtain rfl := h2.bool_inv; exact wpAny_is_plain (by cases a <;> cases b <;> decide) (by cases a <;> cases b <;> exact hq)
  | nn => obtain rfl := h1.none_inv; obtain rfl := h2.none_inv; exact wpAny_is_plain (by decide) hq
  | inn i => obtain ⟨t1, rfl⟩ := h1.int_inv; obtain rfl := h2.none_inv; exact is_int_none hq
  | sn l => obtain ⟨t1, rfl⟩ := h1.str_inv; obtain rfl := h2.none_inv; exact is_str_none hq
  | bn b => obtain rfl := h1.bool_inv; obtain rfl := h2.none_inv; exact wpAny_is_plain (by cases b <;> decide) (by cases b <;> exact hq)
theorem op_isnot (p q : PV) (t : Bool) (ht : IsB p q t) : Op2 c (compareOp .IsNot) p q (.bool (!t)) := .mk fun A M s v u Q _ _ h1 h2 h => by
  have hq := h (.bool (!t)) s (Ex.refl s) (.bool _)
  cases ht with
  | bb a b => obtain rfl := h1.bool_inv; obtain rfl := h2.bool_inv; exact wpAny_isNot_plain (by cases a <;> cases b <;> decide) (by cases a <;> cases b <;> exact hq)
  | nn => obtain rfl := h1.none_inv; obtain rfl := h2.none_inv; exact wpAny_isNot_plain (by decide) hq
  | inn i => obtain ⟨t1, rfl⟩ := h1.int_inv; obtain rfl := h2.none_inv; exact isnot_int_none hq
  | sn l => obtain ⟨t1, rfl⟩ := h1.str_inv; obtain rfl := h2.none_inv; exact isnot_str_none hq
  | bn b => obtain rfl := h1.bool_inv; obtain rfl := h2.none_inv; exact wpAny_isNot_plain (by cases b <;> decide) (by cases b <;> exact hq)

theorem tr_bool (t : Bool) : Tr c (.bool t) t := .mk fun A M s v Q _ _ h1 h => by obtain rfl := h1.bool_inv; exact wpAny_truthy_bool (h s (Ex.refl s))
theorem tr_str (l : List Nat) (hl : (l.length : Int) < 2 ^ 63) : Tr c (.str l) (!l.isEmpty) := .mk fun A M s v Q _ _ h1 h => by
  cases h1
  refine P.truthy_str (by show ¬ ((l.length : Int) ≥ 2 ^ 63); lia) ?_
  have := h _ (ex2 s)
  cases l with
  | nil => exact this
  | cons a r =>
    have e : ((txt (a :: r)).length : Int) = (r.length : Int) + 1 := rfl
    have e2 : (((txt (a :: r)).length : Int) != 0) = true := by rw [e]; simp; lia
    rw [e2]; exact this

theorem op_add_str (a b : List Nat) (hl : a.length + b.length ≤ 16777216) : Op2 c (binaryOp .Add) (.str a) (.str b) (.str (a ++ b)) := .mk fun A M s v u Q _ _ h1 h2 h => by
  obtain ⟨t, rfl⟩ := h1.str_inv
  obtain ⟨u, rfl⟩ := h2.str_inv
  refine P.add_str ?_
  have hx : txt a ++ txt b = txt (a ++ b) := by
    show (Str.append _ _) = _
    simp [Str.append]
  cases a with
  | nil => exact h (.str (txt b) u) s (Ex.refl s) (.str b u)
  | cons x r =>
    cases b with
    | nil => rw [List.append_nil] at h; exact h (.str (txt (x :: r)) t) s (Ex.refl s) (.str _ _)
    | cons y q =>
      refine ⟨?_, ?_⟩
      · rw [hx]; show ((x :: r) ++ (y :: q)).length ≤ sizeLine; rw [List.length_append]; exact hl
      · rw [hx]; exact h _ _ (ex1 s) (.str _ _)
end
end Mine
end

section
open PySem PySem.W PyProof.Rows
set_option Elab.async false
set_option maxRecDepth 100000
set_option linter.unusedVariables false
set_option autoImplicit false
namespace Mine

section
variable {c : Cx} {b : Blk} {d : Nat} {ρ : Rho}

noncomputable def readable (b : Blk) (x : Str) : Bool := !(x == ("__debug__" : Str)) && match b.scope.names.lookup x with
  | some .local => true
  | some .cell => true
  | some .free => !(x == ("__classdict__" : Str))
  | _ => false
noncomputable def storable (b : Blk) (x : Str) : Bool := match b.scope.names.lookup x with
  | some .local => true
  | some .cell => b.oc.contains x
  | _ => false
theorem readable_kind {b : Blk} {x : Str} (h : readable b x = true) : (x == ("__debug__" : Str)) = false ∧ (b.scope.names.lookup x = some .local ∨ b.scope.names.lookup x = some .cell ∨ (b.scope.names.lookup x = some .free ∧ (x == ("__classdict__" : Str)) = false)) := by
  unfold readable at h
  rw [Bool.and_eq_true] at h
  refine ⟨by simpa using h.1, ?_⟩
  have h2 := h.2
  split at h2
  · rename_i e; exact .inl e
  · rename_i e; exact .inr (.inl e)
  · rename_i e; exact .inr (.inr ⟨e, by simpa using h2⟩)
  · cases h2
theorem storable_kind {b : Blk} {x : Str} (h : storable b x = true) : b.scope.names.lookup x = some .local ∨ (b.scope.names.lookup x = some .cell ∧ x ∈ b.oc) := by
  unfold storable at h
  split at h
  · rename_i e; exact .inl e
  · rename_i e; exact .inr ⟨e, by simpa using h⟩
  · cases h

theorem ev_name {x : Str} {pos : Pos} {p : PV} (hx : ρ.lookup x = some (.val p)) (hk : readable b x = true) : Eval c b d (.Name x pos) ρ p := .mk fun A env Mo s₀ K M s Q hR F h =>
  wpAny_Name (F.loadV hx (readable_kind hk).2 fun v r => h v s (Ex.refl s) r) (readable_kind hk).1
theorem ev_int {i : Int} {k : Nat} {pos : Pos} : Eval c b d (.Constant (.int i) k pos) ρ (.int i) := .mk fun A env Mo s₀ K M s Q hR F h =>
  wpAny_Constant_int (h _ _ (ex1 s) (.int _ _))
theorem ev_str {x : Str} {k : Nat} {pos : Pos} : Eval c b d (.Constant (.str x) k pos) ρ (.str x.cps.toList) := .mk fun A env Mo s₀ K M s Q hR F h =>
  Calls.Constant_str (h _ _ (ex1 s) (.str _ _))
theorem ev_bool {t : Bool} {k : Nat} {pos : Pos} : Eval c b d (.Constant (.bool t) k pos) ρ (.bool t) := .mk fun A env Mo s₀ K M s Q hR F h =>
  Constant_bool (h _ _ (Ex.refl s) (.bool _))
theorem ev_none {k : Nat} {pos : Pos} : Eval c b d (.Constant .none k pos) ρ .none := .mk fun A env Mo s₀ K M s Q hR F h =>
  Constant_none (h _ _ (Ex.refl s) .none)

/- two operands, one behind the other -/
theorem two {A : Around} {env : Env} {Mo : Mut} {s₀ : Shared} {K : List (Addr × Obj)} {M : Mut} {s : Shared} {l r : Expr} {p q : PV} {Q : Value → Value → Shared → Prop}
    (h1 : Eval c b d l ρ p) (h2 : Eval c b d r ρ q) (hR : Room d A) (F : Fm c b env ρ Mo s₀ K M s)
    (h : ∀ v u s', Ex s s' → R c s'.heap M p v → R c s'.heap M q u → Q v u s') : W c A (eval l env) (fun v s₁ => W c A (eval r env) (fun u s₂ => Q v u s₂) s₁) s :=
  h1.run A env Mo s₀ K M s _ hR F fun v s₁ e1 r1 => h2.run A env Mo s₀ K M s₁ _ hR (F.ex e1) fun u s₂ e2 r2 => h v u s₂ (e1.trans e2) (r1.ex e2) r2

theorem ev_bin {l r : Expr} {op : Operator} {pos : Pos} {p q v : PV} (h1 : Eval c b d l ρ p) (h2 : Eval c b d r ρ q) (h3 : Op2 c (binaryOp op) p q v) : Eval c b d (.BinOp l op r pos) ρ v :=
  .mk fun A env Mo s₀ K M s Q hR F h => wpAny_BinOp (two h1 h2 hR F fun v u s' e r1 r2 => h3.run A M s' v u Q hR.zero (F.ex e).toBase r1 r2 fun w s'' e' rw => h w s'' (e.trans e') rw)
theorem ev_cmp {l r : Expr} {op : CmpOp} {pos : Pos} {p q v : PV} (h1 : Eval c b d l ρ p) (h2 : Eval c b d r ρ q) (h3 : Op2 c (compareOp op) p q v) (hm : behindInMarks op r = false) : Eval c b d (.Compare l [op] [r] pos) ρ v :=
  .mk fun A env Mo s₀ K M s Q hR F h => wpAny_Compare1 (two h1 h2 hR F fun v u s' e r1 r2 => h3.run A M s' v u Q hR.zero (F.ex e).toBase r1 r2 fun w s'' e' rw => h w s'' (e.trans e') rw) hm
theorem ev_un {x : Expr} {op : UnaryOp} {pos : Pos} {p v : PV} (h1 : Eval c b d x ρ p) (h3 : Op1 c (unaryOp op) p v) : Eval c b d (.UnaryOp op x pos) ρ v :=
  .mk fun A env Mo s₀ K M s Q hR F h => UnaryOp_ (h1.run A env Mo s₀ K M s _ hR F fun v s' e r1 => h3.run A M s' v Q hR.zero (F.ex e).toBase r1 fun w s'' e' rw => h w s'' (e.trans e') rw)

/- a test -/
structure Test (c : Cx) (b : Blk) (d : Nat) (e : Expr) (ρ : Rho) (t : Bool) : Prop where
  run : ∀ (A : Around) (env : Env) (Mo : Mut) (s₀ : Shared) (K : List (Addr × Obj)) (M : Mut) (s : Shared) (Q : Bool → Shared → Prop), Room d A → Fm c b env ρ Mo s₀ K M s →
    (∀ s', Ex s s' → Q t s') → W c A (isTrue e env (eval e env)) Q s
theorem test_cmp {l r : Expr} {op : CmpOp} {pos : Pos} {p q : PV} {t : Bool} (h1 : Eval c b d l ρ p) (h2 : Eval c b d r ρ q) (h3 : Op2 c (compareOp op) p q (.bool t)) (hm : behindInMarks op r = false) : Test c b d (.Compare l [op] [r] pos) ρ t :=
  .mk fun A env Mo s₀ K M s Q hR F h => wpAny_isTrue_Compare1 (two h1 h2 hR F fun v u s' e r1 r2 => h3.run A M s' v u _ hR.zero (F.ex e).toBase r1 r2 fun w s'' e' rw => by
    cases rw; exact wpAny_truthy_bool (h _ (e.trans e'))) hm
theorem test_plain {x : Expr} {p : PV} {t : Bool} (h1 : Eval c b d x ρ p) (h2 : Tr c p t) (he : ∀ env whole, isTrue x env whole = (do let v ← whole; standAt x.pos; holding [v] (truthy v))) : Test c b d x ρ t :=
  .mk fun A env Mo s₀ K M s Q hR F h => isTrue_plain (h1.run A env Mo s₀ K M s _ hR F fun v s' e r1 => h2.run A M s' v Q hR.zero (F.ex e).toBase r1 fun s'' e' => h s'' (e.trans e')) (he _ _)
theorem test_or_nil {pos : Pos} : Test c b d (.BoolOp .Or [] pos) ρ false := .mk fun A env Mo s₀ K M s Q hR F h => isTrue_or_nil (h s (Ex.refl s))
theorem test_and_t {x : Expr} {rest : List Expr} {pos : Pos} {t : Bool} (h1 : Test c b d x ρ true) (h2 : Test c b d (.BoolOp .And rest pos) ρ t) : Test c b d (.BoolOp .And (x :: rest) pos) ρ t :=
  .mk fun A env Mo s₀ K M s Q hR F h => isTrue_and (h1.run A env Mo s₀ K M s _ hR F fun s' e => by
    rw [if_pos rfl]; exact h2.run A env Mo s₀ K M s' Q hR (F.ex e) fun s'' e' => h s'' (e.trans e'))
theorem test_and_f {x : Expr} {rest : List Expr} {pos : Pos} (h1 : Test c b d x ρ false) : Test c b d (.BoolOp .And (x :: rest) pos) ρ false :=
  .mk fun A env Mo s₀ K M s Q hR F h => isTrue_and (h1.run A env Mo s₀ K M s _ hR F fun s' e => by rw [if_neg (by decide)]; exact h s' e)
theorem test_or_f {x : Expr} {rest : List Expr} {pos : Pos} {t : Bool} (h1 : Test c b d x ρ false) (h2 : Test c b d (.BoolOp .Or rest pos) ρ t) : Test c b d (.BoolOp .Or (x :: rest) pos) ρ t :=
  .mk fun A env Mo s₀ K M s Q hR F h => isTrue_or (h1.run A env Mo s₀ K M s _ hR F fun s' e => by
    rw [if_neg (by decide)]; exact h2.run A env Mo s₀ K M s' Q hR (F.ex e) fun s'' e' => h s'' (e.trans e'))

theorem ev_ifexp {test body orelse : Expr} {pos : Pos} {t : Bool} {p : PV} (h1 : Test c b d test ρ t) (h2 : Eval c b d (if t then body else orelse) ρ p) : Eval c b d (.IfExp test body orelse pos) ρ p :=
  .mk fun A env Mo s₀ K M s Q hR F h => IfExp_ (h1.run A env Mo s₀ K M s _ hR F fun s' e => by
    cases t
    · rw [if_neg (by decide)]; exact h2.run A env Mo s₀ K M s' Q hR (F.ex e) fun v s'' e' r => h v s'' (e.trans e') r
    · rw [if_pos rfl]; exact h2.run A env Mo s₀ K M s' Q hR (F.ex e) fun v s'' e' r => h v s'' (e.trans e') r)
theorem ev_and_one {x : Expr} {pos : Pos} {p : PV} (h1 : Eval c b d x ρ p) : Eval c b d (.BoolOp .And [x] pos) ρ p := .mk fun A env Mo s₀ K M s Q hR F h => BoolOp_one (h1.run A env Mo s₀ K M s Q hR F h)
theorem ev_and_t {x y : Expr} {rest : List Expr} {pos : Pos} {p q : PV} (h1 : Eval c b d x ρ p) (ht : Tr c p true) (h2 : Eval c b d (.BoolOp .And (y :: rest) pos) ρ q) : Eval c b d (.BoolOp .And (x :: y :: rest) pos) ρ q :=
  .mk fun A env Mo s₀ K M s Q hR F h => BoolOp_and (h1.run A env Mo s₀ K M s _ hR F fun v s' e r1 => ht.run A M s' v _ hR.zero (F.ex e).toBase r1 fun s'' e' => by
    rw [if_pos rfl]; exact h2.run A env Mo s₀ K M s'' Q hR (F.ex (e.trans e')) fun v s3 e3 r => h v s3 ((e.trans e').trans e3) r)
/- several expressions in a row -/
noncomputable def isStar : Expr → Bool
  | .Starred .. => true
  | _ => false
theorem starEach_cons {e : Expr} (he : isStar e = false) (rest : List Expr) (env : Env) : starEach (e :: rest) env = (false, eval e env) :: starEach rest env := by
  cases e <;> first | rfl | cases he
structure Evals (c : Cx) (b : Blk) (d : Nat) (es : List Expr) (ρ : Rho) (ps : List PV) : Prop where
  run : ∀ (A : Around) (env : Env) (Mo : Mut) (s₀ : Shared) (K : List (Addr × Obj)) (M : Mut) (s : Shared) (pos : Pos) (Q : List Value → Shared → Prop), Room d A → Fm c b env ρ Mo s₀ K M s →
    (∀ vs s', Ex s s' → Rs c s'.heap M ps vs → vs.length = es.length → Q vs s') → W c A (spliced (backTo pos (starEach es env))) Q s
theorem evs_nil : Evals c b d [] ρ [] := .mk fun A env Mo s₀ K M s pos Q hR F h => args_nil (h [] s (Ex.refl s) .nil rfl)
theorem evs_cons {e : Expr} {es : List Expr} {p : PV} {ps : List PV} (h1 : Eval c b d e ρ p) (h2 : Evals c b d es ρ ps) (he : isStar e = false) : Evals c b d (e :: es) ρ (p :: ps) :=
  .mk fun A env Mo s₀ K M s pos Q hR F h => args_cons (h1.run A env Mo s₀ K M s _ hR F fun v s₁ e1 r1 => h2.run A env Mo s₀ K M s₁ pos _ hR (F.ex e1) fun vs s₂ e2 r2 hl =>
    h (v :: vs) s₂ (e1.trans e2) (.cons (r1.ex e2) r2) (by simp [hl])) (starEach_cons he _ _)

theorem R.newList {M : Mut} {s : Shared} {l : List PV} {vs : List Value} (B : Base c M s) (h : Rs c s.heap M l vs) : R c ((s.heap.push (listObj vs 0))) M (.list l) (.ref s.heap.objs.size) :=
  .list B.fresh (Heap.get?_push_size _ rfl) (h.mono (fun z o _ e => Heap.get?_push_of_some _ e) fun _ _ _ m => m)
theorem R.newTup {M : Mut} {s : Shared} {l : List PV} {vs : List Value} (B : Base c M s) (h : Rs c s.heap M l vs) : R c ((s.heap.push (tupObj vs))) M (.tup l) (.ref s.heap.objs.size) :=
  .tup B.fresh (Heap.get?_push_size _ rfl) (h.mono (fun z o _ e => Heap.get?_push_of_some _ e) fun _ _ _ m => m)

theorem ev_list {es : List Expr} {pos : Pos} {ps : List PV} (h1 : Evals c b d es ρ ps) (hl : es.length ≤ 16777216) : Eval c b d (.List es pos) ρ (.list ps) :=
  .mk fun A env Mo s₀ K M s Q hR F h => List_ (h1.run A env Mo s₀ K M s pos _ hR F fun vs s' e r hvl => wpAny_newList (h _ _ (e.trans (Ex.push s' _)) (R.newList (F.ex e).toBase r)) (by rw [hvl]; exact hl))
theorem ev_tup {es : List Expr} {k : Nat} {pos : Pos} {ps : List PV} (h1 : Evals c b d es ρ ps) (hl : es.length ≤ 16777216) : Eval c b d (.Tuple es k pos) ρ (.tup ps) :=
  .mk fun A env Mo s₀ K M s Q hR F h => Tuple_ (h1.run A env Mo s₀ K M s pos _ hR F fun vs s' e r hvl => wpAny_newTuple (h _ _ (e.trans (Ex.push s' _)) (R.newTup (F.ex e).toBase r)) (by rw [hvl]; exact hl))

/- statements -/
theorem ex_assign {x : Str} {px pos : Pos} {value : Expr} {p : PV} (h1 : Eval c b d value ρ p) (hk : storable b x = true)
    (hs : ∀ line env, swapsWith value (some (.Name x px)) line env = pure false) : Exec1 c b d (.Assign [.Name x px] value pos) ρ .next (rset ρ x (.val p)) :=
  .mk fun A env Mo s₀ K M s Q hR F h => wpAny_Assign_Name (h1.run A env Mo s₀ K M s _ hR F fun v s' e r => (F.ex e).storeV (storable_kind hk) r fun s'' F' hp => h _ _ _ F' ((Pres.ex e).trans hp) rfl) (hs _ _)
theorem ex_aug {x : Str} {px pos : Pos} {op : Operator} {value : Expr} {p q r : PV} (hx : ρ.lookup x = some (.val p)) (h1 : Eval c b d value ρ q) (h2 : Op2 c (inplaceOp op) p q r) (hk : storable b x = true) (hr : readable b x = true) :
    Exec1 c b d (.AugAssign (.Name x px) op value pos) ρ .next (rset ρ x (.val r)) :=
  .mk fun A env Mo s₀ K M s Q hR F h => wpAny_AugAssign_Name (F.loadV hx (readable_kind hr).2 fun v r1 => h1.run A env Mo s₀ K M s _ hR F fun u s' e r2 =>
    h2.run A M s' v u _ hR.zero (F.ex e).toBase (r1.ex e) r2 fun z s'' e' rz => (F.ex (e.trans e')).storeV (storable_kind hk) rz fun s3 F' hp => h _ _ _ F' ((Pres.ex (e.trans e')).trans hp) rfl)
theorem ex_return {e : Expr} {pos : Pos} {p : PV} (h1 : Eval c b d e ρ p) : Exec1 c b d (.Return (some e) pos) ρ (.ret p) ρ :=
  .mk fun A env Mo s₀ K M s Q hR F h => wpAny_Return_some (h1.run A env Mo s₀ K M s _ hR F fun v s' e r => h _ _ _ (F.ex e) (Pres.ex e) ⟨v, rfl, r⟩)
theorem ex_if {test : Expr} {body orelse : List Stmt} {pos : Pos} {t : Bool} {f : Fl} {ρ' : Rho} (h1 : Test c b d test ρ t) (h2 : Exec c b d (if t then body else orelse) ρ f ρ') : Exec1 c b d (.If test body orelse pos) ρ f ρ' :=
  .mk fun A env Mo s₀ K M s Q hR F h => wpAny_If (h1.run A env Mo s₀ K M s _ hR F fun s' e => by
    cases t
    · rw [if_neg (by decide)]; exact h2.run A env Mo s₀ K M s' Q hR (F.ex e) fun fl s'' M' F' hp hf => h fl s'' M' F' ((Pres.ex e).trans hp) hf
    · rw [if_pos rfl]; exact h2.run A env Mo s₀ K M s' Q hR (F.ex e) fun fl s'' M' F' hp hf => h fl s'' M' F' ((Pres.ex e).trans hp) hf)
theorem ex_break {pos : Pos} : Exec1 c b d (.Break pos) ρ .brk ρ := .mk fun A env Mo s₀ K M s Q hR F h => by
  show W c A (do standAt pos; pure .brk) Q s
  exact wpAny_bind (wpAny_standAt (wpAny_pure (h _ _ _ F (Pres.refl _ _ _) rfl)))
theorem ex_assert {test : Expr} {msg : Option Expr} {pos : Pos} (h1 : Test c b d test ρ true) : Exec1 c b d (.Assert test msg pos) ρ .next ρ :=
  .mk fun A env Mo s₀ K M s Q hR F h => by
    show W c A (do standAt pos; if ← isTrue test env (eval test env) then pure .next else assertFails test.pos (evalOpt msg env)) Q s
    refine wpAny_bind (wpAny_standAt (wpAny_bind (h1.run A env Mo s₀ K M s _ hR F fun s' e => ?_)))
    rw [if_pos rfl]
    exact wpAny_pure (h _ _ _ (F.ex e) (Pres.ex e) rfl)
end
end Mine
end

section
open PySem PySem.W PyProof.Rows
set_option Elab.async false
set_option maxRecDepth 100000
set_option linter.unusedVariables false
set_option autoImplicit false
namespace Mine

/- ρ' says no more than ρ -/
noncomputable def Sub (ρ' ρ : Rho) : Prop := ∀ x bd, ρ'.lookup x = some bd → ρ.lookup x = some bd
theorem Sub.refl (ρ : Rho) : Sub ρ ρ := fun _ _ h => h
theorem Sub.nil (ρ : Rho) : Sub [] ρ := fun _ _ h => by cases h
theorem Sub.cons {ρ ρ' : Rho} {x : Str} {bd : Bd} (h : ρ.lookup x = some bd) (hs : Sub ρ' ρ) : Sub ((x, bd) :: ρ') ρ := fun y bd' e => by
  rw [List.lookup_cons] at e
  by_cases q : y = x
  · subst q; simp at e; subst e; exact h
  · rw [beq_eq_false_iff_ne.mpr q] at e; exact hs y bd' e

section
variable {c : Cx} {b : Blk} {d : Nat} {ρ : Rho}

theorem Fm.forget {env : Env} {ρ' : Rho} {Mo M : Mut} {K : List (Addr × Obj)} {s₀ s : Shared} (F : Fm c b env ρ Mo s₀ K M s) (hs : Sub ρ' ρ) : Fm c b env ρ' Mo s₀ K M s :=
  have slot : ∀ x ov, Slot c s.heap Mo M (ρ.lookup x) ov → Slot c s.heap Mo M (ρ'.lookup x) ov := fun x ov h => by
    cases e : ρ'.lookup x with
    | none => exact trivial
    | some bd => rw [hs x bd e] at h; exact h
  { F with
    ns := by
      obtain ⟨m, h1, h2, h3⟩ := F.ns
      exact ⟨m, h1, fun x hx => slot x _ (h2 x hx), fun x y a l l' hxy e1 e2 => h3 x y a l l' hxy (hs x _ e1) (hs y _ e2)⟩
    ownl := fun x l e => F.ownl x l (hs x _ e)
    cells := fun x hx => by
      obtain ⟨a, ov, h1, h2, h3, h4⟩ := F.cells x hx
      exact ⟨a, ov, h1, h2, h3, slot x _ h4⟩ }
theorem exec_post {ss : List Stmt} {f : Fl} {ρ₁ ρ₂ : Rho} (h : Exec c b d ss ρ f ρ₁) (hs : Sub ρ₂ ρ₁) : Exec c b d ss ρ f ρ₂ :=
  .mk fun A env Mo s₀ K M s Q hR F k => h.run A env Mo s₀ K M s Q hR F fun fl s' M' F' hp hf => k fl s' M' (F'.forget hs) hp hf
theorem exec_pre {ss : List Stmt} {f : Fl} {ρ₁ ρ₂ : Rho} (hs : Sub ρ₁ ρ) (h : Exec c b d ss ρ₁ f ρ₂) : Exec c b d ss ρ f ρ₂ :=
  .mk fun A env Mo s₀ K M s Q hR F k => h.run A env Mo s₀ K M s Q hR (F.forget hs) k
theorem exec1_post {st : Stmt} {f : Fl} {ρ₁ ρ₂ : Rho} (h : Exec1 c b d st ρ f ρ₁) (hs : Sub ρ₂ ρ₁) : Exec1 c b d st ρ f ρ₂ :=
  .mk fun A env Mo s₀ K M s Q hR F k => h.run A env Mo s₀ K M s Q hR F fun fl s' M' F' hp hf => k fl s' M' (F'.forget hs) hp hf
/- while -/
structure While (c : Cx) (b : Blk) (d : Nat) (test : Expr) (body orelse : List Stmt) (ρ : Rho) (f : Fl) (ρ' : Rho) : Prop where
  run : ∀ (A : Around) (env : Env) (Mo : Mut) (s₀ : Shared) (K : List (Addr × Obj)) (M : Mut) (s : Shared) (Rk : Result → Shared → Prop), Room d A → Fm c b env ρ Mo s₀ K M s →
    (∀ fl s' M', Fm c b env ρ' Mo s₀ K M' s' → Pres c M s M' s' → FlR c s'.heap M' f fl → Rk (.ok fl) s') → codeAny (model c.prog c.w) A (.whileLoop test body orelse env) Rk s
theorem ex_while {test : Expr} {body orelse : List Stmt} {pos : Pos} {f : Fl} {ρ' : Rho} (h : While c b d test body orelse ρ f ρ') : Exec1 c b d (.While test body orelse pos) ρ f ρ' :=
  .mk fun A env Mo s₀ K M s Q hR F k => wpAny_While (h.run A env Mo s₀ K M s _ hR F fun fl s' M' F' hp hf => k fl s' M' F' hp hf)
theorem while_turn {A : Around} {env : Env} {test : Expr} {body orelse : List Stmt} {s : Shared} {Rk : Result → Shared → Prop}
    (h : W c A (whileTurn test body orelse env) (fun fin s' => match fin with | .done f => Rk (.ok f) s' | .again c' => c'.quiet = true ∧ codeAny (model c.prog c.w) A c' Rk s') s) :
    codeAny (model c.prog c.w) A (.whileLoop test body orelse env) Rk s := by
  refine codeAny_of_tree ?_
  show wpAny _ A ((whileTurn test body orelse env).onRaise (fun x => do noteFrame x env; theTreesLotGoes x)) _ _ s
  exact wpAny_onRaise (wpAny_mono h (fun _ _ q => q) fun _ _ q => q.elim)
theorem while_t {test : Expr} {body orelse : List Stmt} {f : Fl} {ρ₁ ρ' : Rho} (h1 : Test c b d test ρ true) (h2 : Exec c b d body ρ .next ρ₁) (h3 : While c b d test body orelse ρ₁ f ρ') : While c b d test body orelse ρ f ρ' :=
  .mk fun A env Mo s₀ K M s Rk hR F k => by
    refine while_turn ?_
    unfold whileTurn
    refine wpAny_bind (h1.run A env Mo s₀ K M s _ hR F fun s' e => ?_)
    rw [if_pos rfl]
    refine wpAny_bind (h2.run A env Mo s₀ K M s' _ hR (F.ex e) fun fl s'' M' F' hp hf => ?_)
    have : fl = .next := hf
    subst this
    exact wpAny_pure ⟨rfl, h3.run A env Mo s₀ K M' s'' Rk hR F' fun fl s3 M3 F3 hp3 hf3 => k fl s3 M3 F3 (((Pres.ex e).trans hp).trans hp3) hf3⟩
theorem while_f {test : Expr} {body orelse : List Stmt} {f : Fl} {ρ' : Rho} (h1 : Test c b d test ρ false) (h2 : Exec c b d orelse ρ f ρ') : While c b d test body orelse ρ f ρ' :=
  .mk fun A env Mo s₀ K M s Rk hR F k => by
    refine while_turn ?_
    unfold whileTurn
    refine wpAny_bind (h1.run A env Mo s₀ K M s _ hR F fun s' e => ?_)
    rw [if_neg (by decide)]
    exact wpAny_bind (h2.run A env Mo s₀ K M s' _ hR (F.ex e) fun fl s'' M' F' hp hf => wpAny_pure (k fl s'' M' F' ((Pres.ex e).trans hp) hf))

/- one mutable object of fields has changed, others may be new -/
structure But (it : Addr) (s s' : Shared) : Prop where
  keep : ∀ z o, z ≠ it → s.heap.get? z = some o → s'.heap.get? z = some o
  os : s'.os = s.os
  toks : s.toks ≤ s'.toks
  gens : s'.gens = s.gens
theorem But.same {it : Addr} {s : Shared} {h' : Heap} {k : Nat} (hs : Heap.SameBut it s.heap h') (hk : s.toks ≤ k) : But it s { s with heap := h', toks := k } :=
  ⟨fun z o hz e => (hs.2 z hz).trans e, rfl, hk, rfl⟩
theorem R.but {it : Addr} {s s' : Shared} {M : Mut} {p : PV} {v : Value} (x : R c s.heap M p v) (hM : M it) (hb : But it s s') : R c s'.heap M p v :=
  x.mono (fun z o hz e => hb.keep z o (fun q => hz (q ▸ hM)) e) fun _ _ _ m => m
theorem Pres.but {it : Addr} {s s' : Shared} {M : Mut} (hM : M it) (hb : But it s s') : Pres c M s M s' := fun _ _ r => r.but hM hb
theorem Fm.but {env : Env} {Mo M : Mut} {K : List (Addr × Obj)} {s₀ s s' : Shared} {it : Addr} {o : Obj} (F : Fm c b env ρ Mo s₀ K M s) (hb : But it s s') (hM : M it) (hMo : ¬ Mo it)
    (ho : s.heap.get? it = some o) (hf : ∃ vs, o.data = .fields vs) (hK : ∀ p ∈ K, p.1 ≠ it) (hl : ∃ o, s'.heap.get? it = some o) : Fm c b env ρ Mo s₀ K M s' := by
  have slot : ∀ bd ov, Slot c s.heap Mo M bd ov → Slot c s'.heap Mo M bd ov := fun bd ov h =>
    h.mono (fun z o hz e => hb.keep z o (fun q => hz (q ▸ hM)) e) (fun _ _ _ m => m) fun l a o' e1 e2 m mo g => ⟨m, hb.keep a o' (by
      rintro rfl
      subst e1
      obtain ⟨z, vs, n, e, _, _, g', _⟩ := h
      rw [e2] at e; cases e
      exact list_ne_fields g' ho hf rfl) g⟩
  obtain ⟨m, hns, h2, h3⟩ := F.ns
  exact {
    scope := F.scope, kind := F.kind, glob := F.glob, blt := F.blt
    base := ⟨fun z o e => hb.keep z o (F.ne_old hM hMo e) (F.base.keep z o e), hb.os.trans F.base.os, Nat.le_trans F.base.toks hb.toks,
      fun x => by rw [hb.gens]; exact F.base.bare x, fun i x e => by rw [hb.gens]; exact F.base.gens i x e⟩
    h1 := fun z o e => hb.keep z o (by rintro rfl; rw [F.h1M _ hM] at e; cases e) (F.h1 z o e)
    h1M := F.h1M
    tok := Nat.le_trans F.tok hb.toks
    mo := F.mo
    mlt := fun a m => by
      by_cases e : a = it
      · subst e; exact hl
      · obtain ⟨o', g⟩ := F.mlt a m; exact ⟨o', hb.keep a o' e g⟩
    molt := F.molt, mfresh := F.mfresh, lM := F.lM, lMo := F.lMo
    ns := ⟨m, hns.at fun o' e => hb.keep _ _ (ns_ne_fields hns ho hf) e, fun x hx => slot _ _ (h2 x hx), h3⟩
    ownl := F.ownl
    cells := fun x hx => (by obtain ⟨a, ov, e1, e2, e3, e4⟩ := F.cells x hx; exact ⟨a, ov, e1, e2, (by have e5 := e3; obtain ⟨oc, g, gd⟩ := e5; exact ⟨oc, hb.keep _ _ (cell_ne_fields e3 ho hf) g, gd⟩), slot _ _ e4⟩)
    cdist := F.cdist, cmo := F.cmo
    prot := fun p hp => (by obtain ⟨h1, h2, h3⟩ := F.prot p hp; exact ⟨hb.keep _ _ (hK p hp) h1, h2, h3⟩) }

/- the object has gone out of use -/
theorem Fm.gone {env : Env} {Mo M : Mut} {K : List (Addr × Obj)} {s₀ s s' : Shared} {it : Addr} {o : Obj} (F : Fm c b env ρ Mo s₀ K M s) (hb : But it s s') (hM : M it) (hMo : ¬ Mo it)
    (ho : s.heap.get? it = some o) (hf : ∃ vs, o.data = .fields vs) (hK : ∀ p ∈ K, p.1 ≠ it) : Fm c b env ρ Mo s₀ K (fun z => M z ∧ z ≠ it) s' := by
  have slot : ∀ bd ov, Slot c s.heap Mo M bd ov → Slot c s'.heap Mo (fun z => M z ∧ z ≠ it) bd ov := fun bd ov h =>
    h.mono (fun z o hz e => hb.keep z o (fun q => hz (q ▸ hM)) e) (fun _ _ _ m => m.1) fun l a o' e1 e2 m mo g => by
      have hne : a ≠ it := by
        rintro rfl
        subst e1
        obtain ⟨z, vs, n, e, _, _, g', _⟩ := h
        rw [e2] at e; cases e
        exact list_ne_fields g' ho hf rfl
      exact ⟨⟨m, hne⟩, hb.keep a o' hne g⟩
  obtain ⟨m, hns, h2, h3⟩ := F.ns
  exact {
    scope := F.scope, kind := F.kind, glob := F.glob, blt := F.blt
    base := ⟨fun z o e => hb.keep z o (F.ne_old hM hMo e) (F.base.keep z o e), hb.os.trans F.base.os, Nat.le_trans F.base.toks hb.toks,
      fun x => by rw [hb.gens]; exact F.base.bare x, fun i x e => by rw [hb.gens]; exact F.base.gens i x e⟩
    h1 := fun z o e => hb.keep z o (by rintro rfl; rw [F.h1M _ hM] at e; cases e) (F.h1 z o e)
    h1M := fun a m => F.h1M a m.1
    tok := Nat.le_trans F.tok hb.toks
    mo := fun a m => ⟨F.mo a m, fun e => hMo (e ▸ m)⟩
    mlt := fun a m => by obtain ⟨o', g⟩ := F.mlt a m.1; exact ⟨o', hb.keep a o' m.2 g⟩
    molt := F.molt
    mfresh := fun a m => F.mfresh a m.1
    lM := ⟨F.lM, ns_ne_fields hns ho hf⟩
    lMo := F.lMo
    ns := ⟨m, hns.at fun o' e => hb.keep _ _ (ns_ne_fields hns ho hf) e, fun x hx => slot _ _ (h2 x hx), h3⟩
    ownl := F.ownl
    cells := fun x hx => (by obtain ⟨a, ov, e1, e2, e3, e4⟩ := F.cells x hx; exact ⟨a, ov, e1, ⟨e2, cell_ne_fields e3 ho hf⟩, (by have e5 := e3; obtain ⟨oc, g, gd⟩ := e5; exact ⟨oc, hb.keep _ _ (cell_ne_fields e3 ho hf) g, gd⟩), slot _ _ e4⟩)
    cdist := F.cdist, cmo := F.cmo
    prot := fun p hp => (by obtain ⟨h1, h2, h3⟩ := F.prot p hp; exact ⟨hb.keep _ _ (hK p hp) h1, ⟨h2, hK p hp⟩, h3⟩) }
theorem Pres.gone {it : Addr} {s s' : Shared} {M : Mut} (hM : M it) (hb : But it s s') : Pres c M s (fun z => M z ∧ z ≠ it) s' := fun _ _ r =>
  r.mono (fun z o hz e => hb.keep z o (fun q => hz (q ▸ hM)) e) fun _ _ _ m => m.1

/- a new mutable place -/
theorem R.addM {s s' : Shared} {M : Mut} {a : Addr} {p : PV} {v : Value} (x : R c s.heap M p v) (e : Keep s.heap s'.heap) (ha : s.heap.get? a = Option.none) : R c s'.heap (fun z => M z ∨ z = a) p v :=
  x.mono (fun z o _ g => e z o g) fun z o hz h => by
    rcases h with h | h
    · exact h
    · subst h; rw [ha] at hz; cases hz
theorem Fm.addM {env : Env} {Mo M : Mut} {K : List (Addr × Obj)} {s₀ s s' : Shared} {a : Addr} (F : Fm c b env ρ Mo s₀ K M s) (e : Ex s s') (ha : s.heap.get? a = none) (ha' : ∃ o, s'.heap.get? a = some o) :
    Fm c b env ρ Mo s₀ K (fun z => M z ∨ z = a) s' := by
  have slot : ∀ bd ov, Slot c s.heap Mo M bd ov → Slot c s'.heap Mo (fun z => M z ∨ z = a) bd ov := fun bd ov h =>
    h.mono (fun z o _ g => e.keep z o g) (fun z o hz h => by
      rcases h with h | h
      · exact h
      · subst h; rw [ha] at hz; cases hz) fun l z o e1 e2 m mo g => ⟨.inl m, e.keep _ _ g⟩
  obtain ⟨m, hns, h2, h3⟩ := F.ns
  exact {
    scope := F.scope, kind := F.kind, glob := F.glob, blt := F.blt
    base := F.base.trans e
    h1 := fun z o g => e.keep z o (F.h1 z o g)
    h1M := fun z hz => by
      rcases hz with hz | rfl
      · exact F.h1M z hz
      · cases q : c.h1.get? z with
        | none => rfl
        | some o => rw [F.h1 _ _ q] at ha; cases ha
    tok := Nat.le_trans F.tok e.toks
    mo := fun z h => .inl (F.mo z h)
    mlt := fun z hz => by
      rcases hz with hz | rfl
      · obtain ⟨o, g⟩ := F.mlt z hz; exact ⟨o, e.keep z o g⟩
      · exact ha'
    molt := F.molt
    mfresh := fun z hz hmo => by
      rcases hz with hz | rfl
      · exact F.mfresh z hz hmo
      · cases q : s₀.heap.get? z with
        | none => rfl
        | some o => rw [F.base.keep _ _ q] at ha; cases ha
    lM := .inl F.lM, lMo := F.lMo
    ns := ⟨m, hns.keeps e.keep, fun x hx => slot _ _ (h2 x hx), h3⟩
    ownl := F.ownl
    cells := fun x hx => (by obtain ⟨a, ov, e1, e2, e3, e4⟩ := F.cells x hx; exact ⟨a, ov, e1, .inl e2, e3.keeps e.keep, slot _ _ e4⟩)
    cdist := F.cdist, cmo := F.cmo
    prot := fun p hp => (by obtain ⟨h1, h2, h3⟩ := F.prot p hp; exact ⟨e.keep _ _ h1, .inl h2, h3⟩) }
theorem Fm.notMo {env : Env} {Mo M : Mut} {K : List (Addr × Obj)} {s₀ s : Shared} {a : Addr} (F : Fm c b env ρ Mo s₀ K M s) (ha : s.heap.get? a = none) : ¬ Mo a := fun h => by
  obtain ⟨o, g⟩ := F.molt a h
  rw [F.base.keep _ _ g] at ha; cases ha
end
end Mine
end

section
open PySem PySem.W PyProof.Rows
set_option Elab.async false
set_option maxRecDepth 100000
set_option linter.unusedVariables false
set_option autoImplicit false
namespace Mine

noncomputable def rngPs : Int → Nat → List PV
  | _, 0 => []
  | a, n + 1 => .int a :: rngPs (a + 1) n
noncomputable def chars (l : List Nat) : List PV := l.map fun n => .str [n]

noncomputable def tupleOwners : List String := ["enumerate", "zip", "dict_itemiterator", "dict_reverseitemiterator", "odict_iterator", "itertools.zip_longest", "itertools.pairwise"]

/- an iterator at it: I says what is still to come -/
structure IterOf (c : Cx) (it : Addr) (I : List PV → Heap → Mut → Prop) : Prop where
  next : ∀ (A : Around) (M : Mut) (s : Shared) (p : PV) (ps : List PV) (Q : Option Value → Shared → Prop), Room 0 A → M it → I (p :: ps) s.heap M →
    (∀ v s', But it s s' → R c s.heap M p v → I ps s'.heap M → Q (some v) s') → W c A (pyNext (.ref it)) Q s
  done : ∀ (A : Around) (M : Mut) (s : Shared) (Q : Option Value → Shared → Prop), Room 0 A → M it → I [] s.heap M → (∀ s', But it s s' → Q none s') → W c A (pyNext (.ref it)) Q s
  self : ∀ (A : Around) (M : Mut) (s : Shared) (ps : List PV) (Q : Value → Shared → Prop), I ps s.heap M → Q (.ref it) s → W c A (pyIter (.ref it)) Q s
  obj : ∀ ps h M, I ps h M → ∃ o, h.get? it = some o ∧ (∃ vs, o.data = .fields vs) ∧ ∀ n, o.cls = .type n → tupleOwners.contains n = false
  stable : ∀ ps (s : Shared) M (s' : Shared) M', I ps s.heap M → s'.heap.get? it = s.heap.get? it → Pres c M s M' s' → I ps s'.heap M'

section
variable {c : Cx}
theorem But.ext {it : Addr} {s : Shared} {h' : Heap} (hs : Heap.ExtBut it s.heap h') : But it s { s with heap := h' } :=
  ⟨fun z o hz e => hs z o hz e, rfl, Nat.le_refl _, rfl⟩

noncomputable def IList (c : Cx) (it : Addr) (ps : List PV) (h : Heap) (M : Mut) : Prop := ∃ l all i, h.IsListIter it l i ∧ R c h M (.list all) (.ref l) ∧ ps = all.drop i
noncomputable def IStr (it : Addr) (ps : List PV) (h : Heap) (_ : Mut) : Prop := ∃ ty x t i, (ty = "str_ascii_iterator" ∨ ty = "str_iterator") ∧ h.IsStrIter it ty x t i ∧ ps = chars (x.cps.toList.drop i)
noncomputable def IRng (it : Addr) (ps : List PV) (h : Heap) (_ : Mut) : Prop := ∃ (x : Int) (n : Nat), IsRangeIter h it x n 1 ∧ ps = rngPs x n

theorem drop_cons {α : Type} {all : List α} {i : Nat} {p : α} {ps : List α} (e : p :: ps = all.drop i) : all[i]? = some p ∧ ps = all.drop (i + 1) := by
  have h1 : all[i]? = some p := by
    have : (all.drop i)[0]? = some p := by rw [← e]; rfl
    rwa [List.getElem?_drop, Nat.add_zero] at this
  refine ⟨h1, ?_⟩
  have : (all.drop i).drop 1 = ps := by rw [← e]; rfl
  rw [← this, List.drop_drop]
theorem drop_nil {α : Type} {all : List α} {i : Nat} (e : [] = all.drop i) : all[i]? = none := by
  have : (all.drop i)[0]? = none := by rw [← e]; rfl
  rwa [List.getElem?_drop, Nat.add_zero] at this

theorem R.list_inv {h : Heap} {M : Mut} {l : List PV} {v : Value} (r : R c h M (.list l) v) : ∃ a vs n, v = .ref a ∧ ¬ M a ∧ h.get? a = some (listObj vs n) ∧ Rs c h M l vs := by
  cases r with
  | list h1 h2 h3 => exact ⟨_, _, _, rfl, h1, h2, h3⟩

theorem iter_list (it : Addr) : IterOf c it (IList c it) where
  next := fun A M s p ps Q hR hM hI h => by
    obtain ⟨l, all, i, hit, hr, e⟩ := hI
    obtain ⟨a, vs, n, hv, hna, hg, hs⟩ := hr.list_inv
    cases hv
    obtain ⟨hp, hps⟩ := drop_cons e
    obtain ⟨v, hv, hrv⟩ := hs.get i p hp
    refine wpAny_pyNext_list_item hit (items := vs.toArray) ⟨_, hg, rfl, n, rfl⟩ (by simpa using hv) fun h' hit' hsb => ?_
    have hb : But it s { s with heap := h' } := But.same (k := s.toks) hsb (Nat.le_refl _)
    exact h v _ hb hrv ⟨l, all, i + 1, hit', hr.but hM hb, hps⟩
  done := fun A M s Q hR hM hI h => by
    obtain ⟨l, all, i, hit, hr, e⟩ := hI
    obtain ⟨a, vs, n, hv, hna, hg, hs⟩ := hr.list_inv
    cases hv
    have hp := drop_nil e
    refine wpAny_pyNext_list_end hR.handled hit (items := vs.toArray) ⟨_, hg, rfl, n, rfl⟩ (by
      rw [List.getElem?_toArray, List.getElem?_eq_none_iff, hs.length]; exact List.getElem?_eq_none_iff.mp hp) fun h' hsb => h _ (But.ext hsb)
  self := fun A M s ps Q hI h => by
    obtain ⟨l, all, i, hit, hr, e⟩ := hI
    exact wpAny_pyIter_listiter hit h
  obj := fun ps h M hI => by
    obtain ⟨l, all, i, ⟨o, ho, hc, hd⟩, hr, e⟩ := hI
    exact ⟨o, ho, ⟨_, hd⟩, fun n hn => by rw [hc] at hn; cases hn; decide⟩
  stable := fun ps s M s' M' hI hsame hp => by
    obtain ⟨l, all, i, ⟨o, ho, hcd⟩, hr, e⟩ := hI
    exact ⟨l, all, i, ⟨o, hsame.trans ho, hcd⟩, hp _ _ hr, e⟩

theorem chars_cons {p : PV} {ps : List PV} {l : List Nat} (e : p :: ps = chars l) : ∃ n r, l = n :: r ∧ p = .str [n] ∧ ps = chars r := by
  cases l with
  | nil => cases e
  | cons n r => cases e; exact ⟨n, r, rfl, rfl, rfl⟩

theorem iter_str (it : Addr) : IterOf c it (IStr it) where
  next := fun A M s p ps Q hR hM hI h => by
    obtain ⟨ty, x, t, i, hty, hit, e⟩ := hI
    obtain ⟨n, r, he, rfl, rfl⟩ := chars_cons e
    obtain ⟨hx, hr⟩ := drop_cons he.symm
    have hx' : x.cps[i]? = some n := by rw [← hx]; simp
    rcases hty with rfl | rfl
    · refine wpAny_pyNext_ascii_item hit hx' fun h' hit' hsb => ?_
      exact h _ _ (But.same (k := s.toks + 1) hsb (Nat.le_succ _)) (.str [n] s.toks) ⟨_, x, t, i + 1, .inl rfl, hit', by rw [hr]⟩
    · refine wpAny_pyNext_wide_item hit hx' fun h' hit' hsb => ?_
      exact h _ _ (But.same (k := s.toks + 1) hsb (Nat.le_succ _)) (.str [n] s.toks) ⟨_, x, t, i + 1, .inr rfl, hit', by rw [hr]⟩
  done := fun A M s Q hR hM hI h => by
    obtain ⟨ty, x, t, i, hty, hit, e⟩ := hI
    have he : [] = x.cps.toList.drop i := by
      cases q : x.cps.toList.drop i with
      | nil => rfl
      | cons a b => rw [q] at e; cases e
    have hx := drop_nil he
    have hx' : x.cps[i]? = none := by rw [← hx]; simp
    rcases hty with rfl | rfl
    · exact wpAny_pyNext_ascii_end hR.handled hit hx' fun h' hsb => h _ (But.ext hsb)
    · exact wpAny_pyNext_wide_end hR.handled hit hx' fun h' hsb => h _ (But.ext hsb)
  self := fun A M s ps Q hI h => by
    obtain ⟨ty, x, t, i, hty, hit, e⟩ := hI
    rcases hty with rfl | rfl
    · exact wpAny_pyIter_striter_ascii hit h
    · exact wpAny_pyIter_striter_wide hit h
  obj := fun ps h M hI => by
    obtain ⟨ty, x, t, i, hty, ⟨o, ho, hc, hd⟩, e⟩ := hI
    exact ⟨o, ho, ⟨_, hd⟩, fun n hn => by rw [hc] at hn; cases hn; rcases hty with rfl | rfl <;> decide⟩
  stable := fun ps s M s' M' hI hsame hp => by
    obtain ⟨ty, x, t, i, hty, ⟨o, ho, hcd⟩, e⟩ := hI
    exact ⟨ty, x, t, i, hty, ⟨o, hsame.trans ho, hcd⟩, e⟩

theorem iter_rng (it : Addr) : IterOf c it (IRng it) where
  next := fun A M s p ps Q hR hM hI h => by
    obtain ⟨x, n, hit, e⟩ := hI
    cases n with
    | zero => cases e
    | succ n =>
      cases e
      refine wpAny_pyNext_range_item hit (by lia) fun h' hit' hsb => ?_
      refine h _ _ (But.same (k := s.toks + 1) hsb (Nat.le_succ _)) (.int x s.toks) ⟨x + 1, n, ?_, rfl⟩
      have : ((n + 1 : Nat) : Int) - 1 = (n : Int) := by lia
      rw [this] at hit'; exact hit'
  done := fun A M s Q hR hM hI h => by
    obtain ⟨x, n, hit, e⟩ := hI
    cases n with
    | succ n => cases e
    | zero => exact wpAny_pyNext_range_end hR.handled hit (by lia) fun h' hsb => h _ (But.ext hsb)
  self := fun A M s ps Q hI h => by
    obtain ⟨x, n, hit, e⟩ := hI
    exact wpAny_pyIter_rangeiter hit h
  obj := fun ps h M hI => by
    obtain ⟨x, n, hit, e⟩ := hI
    exact ⟨_, hit, ⟨_, rfl⟩, fun n hn => by cases hn; decide⟩
  stable := fun ps s M s' M' hI hsame hp => by
    obtain ⟨x, n, hit, e⟩ := hI
    exact ⟨x, n, hsame.trans hit, e⟩

/- what a for runs over -/
noncomputable def itemsOf : PV → List PV
  | .list l => l
  | .str l => chars l
  | .rng a b => rngPs a (b - a).toNat
  | _ => []
noncomputable def iterable : PV → Prop
  | .list _ => True
  | .str _ => True
  | .rng a b => -(2 ^ 62) ≤ a ∧ a < 2 ^ 62 ∧ -(2 ^ 62) ≤ b ∧ b < 2 ^ 62
  | _ => False

/- a new iterator -/
theorem iter_new {A : Around} {M : Mut} {s : Shared} {p : PV} {v : Value} {Q : Value → Shared → Prop} (B : Base c M s) (hp : iterable p) (hr : R c s.heap M p v)
    (h : ∀ (it : Addr) (s' : Shared) (I : List PV → Heap → Mut → Prop), Ex s s' → s.heap.get? it = none → IterOf c it I → (∃ o, s'.heap.get? it = some o) → I (itemsOf p) s'.heap (fun z => M z ∨ z = it) → Q (.ref it) s') :
    W c A (pyIter v) Q s := by
  have fr : s.heap.get? s.heap.objs.size = none := by
    cases q : s.heap.get? s.heap.objs.size with
    | none => rfl
    | some o => exact absurd (Heap.lt_size q) (Nat.lt_irrefl _)
  cases hr with
  | none => cases hp
  | bool => cases hp
  | int => cases hp
  | tup => cases hp
  | obj => cases hp
  | raw => cases hp
  | str l t =>
    cases ha : (txt l).cps.all (· < 128) with
    | true =>
      refine wpAny_pyIter_ascii ha (h _ _ _ (Ex.push s _) fr (iter_str _) ⟨_, Heap.get?_push_size _ rfl⟩ ⟨_, txt l, t, 0, .inl rfl, ⟨_, Heap.get?_push_size _ rfl, rfl, rfl⟩, ?_⟩)
      rfl
    | false =>
      refine wpAny_pyIter_wide ha (h _ _ _ (Ex.push s _) fr (iter_str _) ⟨_, Heap.get?_push_size _ rfl⟩ ⟨_, txt l, t, 0, .inr rfl, ⟨_, Heap.get?_push_size _ rfl, rfl, rfl⟩, ?_⟩)
      rfl
  | @list a l vs n h1 h2 h3 =>
    refine wpAny_pyIter_list (items := vs.toArray) ⟨_, h2, rfl, n, rfl⟩ (h _ _ _ (Ex.push s _) fr (iter_list _) ⟨_, Heap.get?_push_size _ rfl⟩ ⟨a, l, 0, ⟨_, Heap.get?_push_size _ rfl, rfl, rfl⟩, ?_, rfl⟩)
    exact (R.list h1 h2 h3).addM (s' := { s with heap := s.heap.push _ }) (Ex.push s _).keep fr
  | @rng r a b t u v h1 h2 =>
    obtain ⟨ha, ha', hb, hb'⟩ := hp
    refine wpAny_pyIter_range h2 (small_one ha ha' hb hb') (h _ _ _ (Ex.push s _) fr (iter_rng _) ⟨_, Heap.get?_push_size _ rfl⟩ ⟨a, (b - a).toNat, ?_, rfl⟩)
    have e : Builtin.Range.rangeSize a b 1 = ((b - a).toNat : Int) := by rw [rangeSize_one]; split <;> lia
    have := Heap.get?_push_size s.heap (o := { cls := .type "range_iterator", data := .fields #[rawInt a, rawInt (Builtin.Range.rangeSize a b 1), rawInt 1] }) rfl
    rw [e] at this ⊢
    exact this
end

section
variable {c : Cx} {b : Blk} {d : Nat} {ρ : Rho}

/- a target takes a value -/
structure Bind (c : Cx) (b : Blk) (d : Nat) (target : Expr) (p : PV) (ρ ρ' : Rho) : Prop where
  run : ∀ (A : Around) (env : Env) (Mo : Mut) (s₀ : Shared) (K : List (Addr × Obj)) (M : Mut) (s : Shared) (v : Value) (Q : Unit → Shared → Prop), Room d A → Fm c b env ρ Mo s₀ K M s → R c s.heap M p v →
    (∀ s', Fm c b env ρ' Mo s₀ K M s' → Pres c M s M s' → Stay env s s' → Q () s') → W c A (assign target env v) Q s
theorem bind_name {x : Str} {pos : Pos} {p : PV} (hk : storable b x = true) : Bind c b d (.Name x pos) p ρ (rset ρ x (.val p)) :=
  .mk fun A env Mo s₀ K M s v Q hR F hr h => wpAny_assign_Name (F.storeV' (storable_kind hk) hr fun s' F' hp hst => h s' F' hp hst)

theorem letOwned {A : Around} {target : Expr} {it : Addr} {v : Value} {s : Shared} {o : Obj} {Q : Unit → Shared → Prop} (ho : s.heap.get? it = some o) (hn : ∀ n, o.cls = .type n → tupleOwners.contains n = false) (h : Q () s) :
    W c A (letOwnedTupleGo target (.ref it) v) Q s := by
  have key : W c A (do
      let (.ref r, .ref a) := (Value.ref it, v) | return
      let o ← load r
      match o.cls, o.data with
      | .type n, .fields vs =>
        if ["enumerate", "zip", "dict_itemiterator", "dict_reverseitemiterator", "odict_iterator", "itertools.zip_longest", "itertools.pairwise"].contains n && vs[0]? == some (rawInt a) then
          rule "for.unpacks-the-owned-tuple"
          updateField r 0 .none
      | _, _ => pure ()) Q s := by
    cases v with
    | ref a =>
      refine wpAny_bind (wpAny_load ho ?_)
      cases hc : o.cls with
      | type n =>
        have := hn n hc
        cases o.data with
        | fields vs =>
          show W c A (if (tupleOwners.contains n && vs[0]? == some (rawInt a)) = true then _ else _) Q s
          rw [this, Bool.false_and, if_neg (by decide)]
          exact wpAny_pure h
        | _ => exact wpAny_pure h
      | _ => exact wpAny_pure h
    | _ => exact wpAny_pure h
  unfold letOwnedTupleGo
  cases target <;> first | exact wpAny_pure h | exact key

/- for: what is still to come -/
structure ForEx (c : Cx) (b : Blk) (d : Nat) (target : Expr) (body orelse : List Stmt) (ps : List PV) (ρ : Rho) (f : Fl) (ρ' : Rho) : Prop where
  run : ∀ (A : Around) (env : Env) (Mo : Mut) (s₀ : Shared) (K : List (Addr × Obj)) (M : Mut) (s : Shared) (it : Addr) (I : List PV → Heap → Mut → Prop) (Rk : Result → Shared → Prop), IterOf c it I → Room d A →
    Fm c b env ρ Mo s₀ K M s → M it → ¬ Mo it → (∀ p ∈ K, p.1 ≠ it) → I ps s.heap M →
    (∀ fl s' M', Fm c b env ρ' Mo s₀ K M' s' → Pres c M s M' s' → FlR c s'.heap M' f fl → Rk (.ok fl) s') → codeAny (model c.prog c.w) A (.forLoop target (.ref it) body orelse env) Rk s

theorem for_turn {A : Around} {env : Env} {target : Expr} {it : Value} {body orelse : List Stmt} {s : Shared} {Rk : Result → Shared → Prop}
    (h : W c A (forTurn target it body orelse env) (fun fin s' => match fin with | .done f => Rk (.ok f) s' | .again c' => c'.quiet = true ∧ codeAny (model c.prog c.w) A c' Rk s') s) :
    codeAny (model c.prog c.w) A (.forLoop target it body orelse env) Rk s := by
  refine codeAny_of_tree ?_
  show wpAny _ A ((forTurn target it body orelse env).onRaise (fun x => do noteFrame x env; theTreesLotGoes x)) _ _ s
  exact wpAny_onRaise (wpAny_mono h (fun _ _ q => q) fun _ _ q => q.elim)

theorem for_nil {target : Expr} {body orelse : List Stmt} {f : Fl} {ρ' : Rho} (h1 : Exec c b d orelse ρ f ρ') : ForEx c b d target body orelse [] ρ f ρ' :=
  .mk fun A env Mo s₀ K M s it I Rk hI hR F hM hMo hK hi k => by
    obtain ⟨o, ho, hf, _⟩ := hI.obj _ _ _ hi
    refine for_turn ?_
    unfold forTurn
    refine wpAny_bind (wpAny_standAt (wpAny_bind (wpAny_onRaise (wpAny_mono (hI.done A M s _ hR.zero hM hi fun s' hb => ?_) (fun _ _ q => q) fun _ _ q => q.elim))))
    refine wpAny_pure ⟨rfl, codeAny_block (wpAny_mono (h1.run A env Mo s₀ K _ s' _ hR (F.gone hb hM hMo ho hf hK) fun fl s'' M'' F'' hp hf' => ?_) (fun _ _ q => q) fun _ _ q => q.elim)⟩
    exact k fl s'' M'' F'' ((Pres.gone hM hb).trans hp) hf'

theorem Fm.unprot {env : Env} {Mo M : Mut} {K : List (Addr × Obj)} {p : Addr × Obj} {s₀ s : Shared} (F : Fm c b env ρ Mo s₀ (p :: K) M s) : Fm c b env ρ Mo s₀ K M s :=
  { F with prot := fun q hq => F.prot q (List.mem_cons_of_mem _ hq) }
theorem Fm.toprot {env : Env} {Mo M : Mut} {K : List (Addr × Obj)} {p : Addr × Obj} {s₀ s : Shared} (F : Fm c b env ρ Mo s₀ K M s) (hp : s.heap.get? p.1 = some p.2 ∧ M p.1 ∧ Held env.locals p.1 p.2) :
    Fm c b env ρ Mo s₀ (p :: K) M s :=
  { F with prot := fun q hq => (List.mem_cons.mp hq).elim (fun e => e ▸ hp) (F.prot q) }

/- one turn up to the body's end -/
theorem for_step {target : Expr} {body orelse : List Stmt} {p : PV} {ps : List PV} {f₁ : Fl} {ρ₀ ρ₁ : Rho} (h0 : Bind c b d target p ρ ρ₀) (h1 : Exec c b d body ρ₀ f₁ ρ₁)
    {A : Around} {env : Env} {Mo : Mut} {s₀ : Shared} {K : List (Addr × Obj)} {M : Mut} {s : Shared} {it : Addr} {I : List PV → Heap → Mut → Prop} {Rk : Result → Shared → Prop} (hI : IterOf c it I) (hR : Room d A)
    (F : Fm c b env ρ Mo s₀ K M s) (hM : M it) (hMo : ¬ Mo it) (hK : ∀ p ∈ K, p.1 ≠ it) (hi : I (p :: ps) s.heap M)
    (k : ∀ fl s' M', Fm c b env ρ₁ Mo s₀ K M' s' → Pres c M s M' s' → FlR c s'.heap M' f₁ fl → M' it → I ps s'.heap M' → W c A (match fl with
      | .next | .cont => again (.forLoop target (.ref it) body orelse env)
      | .brk => pure (.done .next)
      | .ret v => pure (.done (.ret v))) (fun fin s' => match fin with | .done f => Rk (.ok f) s' | .again c' => c'.quiet = true ∧ codeAny (model c.prog c.w) A c' Rk s') s') :
    codeAny (model c.prog c.w) A (.forLoop target (.ref it) body orelse env) Rk s := by
  obtain ⟨o, ho, hf, _⟩ := hI.obj _ _ _ hi
  refine for_turn ?_
  unfold forTurn
  refine wpAny_bind (wpAny_standAt (wpAny_bind (wpAny_onRaise (wpAny_mono (hI.next A M s p ps _ hR.zero hM hi fun v s' hb hr hi' => ?_) (fun _ _ q => q) fun _ _ q => q.elim))))
  obtain ⟨o', ho', hf', hn'⟩ := hI.obj _ _ _ hi'
  have F' := F.but hb hM hMo ho hf hK ⟨o', ho'⟩
  refine wpAny_bind (letOwned ho' hn' ?_)
  refine wpAny_bind (h0.run A env Mo s₀ ((it, o') :: K) M s' v _ hR (F'.toprot ⟨ho', hM, let ⟨_, hn, _⟩ := F'.ns; .ofFields hn ho' hf'⟩) (hr.but hM hb) fun s2 F2 hp2 _ => ?_)
  have i2 : I ps s2.heap M := hI.stable ps s' M s2 M hi' ((F2.prot _ List.mem_cons_self).1.trans ho'.symm) hp2
  refine wpAny_bind (h1.run A env Mo s₀ ((it, o') :: K) M s2 _ hR F2 fun fl s3 M3 F3 hp3 hfl => ?_)
  have pr := F3.prot _ List.mem_cons_self
  have i3 : I ps s3.heap M3 := hI.stable ps s2 M s3 M3 i2 (pr.1.trans (F2.prot _ List.mem_cons_self).1.symm) hp3
  exact k fl s3 M3 F3.unprot (((Pres.but hM hb).trans hp2).trans hp3) hfl pr.2.1 i3

theorem for_cons {target : Expr} {body orelse : List Stmt} {p : PV} {ps : List PV} {f : Fl} {ρ₀ ρ₁ ρ' : Rho} (h0 : Bind c b d target p ρ ρ₀) (h1 : Exec c b d body ρ₀ .next ρ₁)
    (h2 : ForEx c b d target body orelse ps ρ₁ f ρ') : ForEx c b d target body orelse (p :: ps) ρ f ρ' :=
  .mk fun A env Mo s₀ K M s it I Rk hI hR F hM hMo hK hi k => for_step h0 h1 hI hR F hM hMo hK hi fun fl s' M' F' hp hfl hM' hi' => by
    have : fl = .next := hfl
    subst this
    exact wpAny_pure ⟨rfl, h2.run A env Mo s₀ K M' s' it I Rk hI hR F' hM' hMo hK hi' fun fl s'' M'' F'' hp' hf' => k fl s'' M'' F'' (hp.trans hp') hf'⟩
theorem for_ret {target : Expr} {body orelse : List Stmt} {p q : PV} {ps : List PV} {ρ₀ ρ' : Rho} (h0 : Bind c b d target p ρ ρ₀) (h1 : Exec c b d body ρ₀ (.ret q) ρ') : ForEx c b d target body orelse (p :: ps) ρ (.ret q) ρ' :=
  .mk fun A env Mo s₀ K M s it I Rk hI hR F hM hMo hK hi k => for_step h0 h1 hI hR F hM hMo hK hi fun fl s' M' F' hp hfl hM' hi' => by
    obtain ⟨v, rfl, hr⟩ := hfl
    exact wpAny_pure (k _ s' M' F' hp ⟨v, rfl, hr⟩)
theorem for_brk {target : Expr} {body orelse : List Stmt} {p : PV} {ps : List PV} {ρ₀ ρ' : Rho} (h0 : Bind c b d target p ρ ρ₀) (h1 : Exec c b d body ρ₀ .brk ρ') : ForEx c b d target body orelse (p :: ps) ρ .next ρ' :=
  .mk fun A env Mo s₀ K M s it I Rk hI hR F hM hMo hK hi k => for_step h0 h1 hI hR F hM hMo hK hi fun fl s' M' F' hp hfl hM' hi' => by
    have : fl = .brk := hfl
    subst this
    exact wpAny_pure (k _ s' M' F' hp rfl)

theorem ex_for {target iter : Expr} {body orelse : List Stmt} {pos : Pos} {p : PV} {f : Fl} {ρ' : Rho} (h1 : Eval c b d iter ρ p) (hp : iterable p) (h2 : ForEx c b d target body orelse (itemsOf p) ρ f ρ')
    (hs : ∀ env x, foldedSetIterable iter env x = pure x) : Exec1 c b d (.For target iter body orelse pos) ρ f ρ' :=
  .mk fun A env Mo s₀ K M s Q hR F k => wpAny_For (h1.run A env Mo s₀ K M s _ hR F fun v s1 e1 r1 => iter_new (F.ex e1).toBase hp r1 fun it s2 I e2 hfr hI hl hi => by
    have F1 := F.ex e1
    refine h2.run A env Mo s₀ K _ s2 it I _ hI hR (F1.addM e2 hfr hl) (.inr rfl) (F1.notMo hfr) (fun q hq e => ?_) hi fun fl s' M' F' hp' hf' => ?_
    · have := (F1.prot q hq).1; rw [e, hfr] at this; cases this
    · exact k fl s' M' F' (fun q u r => hp' q u ((r.ex e1).addM e2.keep hfr)) hf') (hs env)
end
end Mine
end

section
open PySem PySem.W PyProof.Rows
set_option Elab.async false
set_option maxRecDepth 100000
set_option linter.unusedVariables false
set_option autoImplicit false
namespace Mine

theorem setGen_toks (s : Shared) (g : Nat) (x : GenState) : (s.setGen g x).toks = s.toks := rfl
theorem runs_toks {M : Model} {Γ : Ctx} {p : Pos} {t : Sem Fin} {fs : List PySem.Frame} {s : Shared} {e : End} {s' : Shared} (h : Runs M Γ p t fs s e s') : s.toks ≤ s'.toks := by
  induction h <;> first
    | exact Nat.le_refl _
    | assumption
    | (simp only [setGen_toks] at *; lia)
    | lia
theorem wakes_toks {M : Model} {Γ : Ctx} {p : Pos} {g : Nat} {r : Resume} {s : Shared} {res : GenResult} {s' : Shared} (h : Wakes M Γ p g r s res s') : s.toks ≤ s'.toks := by
  unfold Wakes at h
  split at h
  · cases h
  · split at h
    · obtain ⟨e, s1, hr, _, _, rfl⟩ := h; have := runs_toks hr; exact this
    · obtain ⟨_, rfl⟩ := h; exact Nat.le_refl _
    · obtain ⟨_, rfl⟩ := h; exact Nat.le_refl _
  · obtain ⟨e, s1, hr, _, _, rfl⟩ := h; have := runs_toks hr; exact this
  · obtain ⟨_, rfl⟩ := h; exact Nat.le_refl _
  · obtain ⟨_, rfl⟩ := h; exact Nat.le_refl _
theorem wp_toks {α : Type} (M : Model) (Γ : Ctx) (n : Nat) : ∀ (t : Sem α) (Q : α → Pos → Shared → Prop) (E : Value → Pos → Shared → Prop) (p : Pos) (s : Shared), n ≤ s.toks →
    Sem.wp M Γ t (fun a p' s' => n ≤ s'.toks → Q a p' s') (fun a p' s' => n ≤ s'.toks → E a p' s') p s → Sem.wp M Γ t Q E p s := by
  intro t
  induction t with
  | pure a => intro Q E p s hs h; exact h hs
  | raise e => intro Q E p s hs h; exact h hs
  | unsupported _ => intro Q E p s hs h; exact h
  | finish _ => intro Q E p s hs h; exact h
  | rule _ k ih => intro Q E p s hs h; exact ih () Q E p s hs h
  | «at» q k ih => intro Q E p s hs h; exact ih () Q E q s hs h
  | load a part k ih => intro Q E p s hs h; obtain ⟨o, ho, h⟩ := h; exact ⟨o, ho, ih o Q E p s hs h⟩
  | update a part f k ih => intro Q E p s hs h; exact ⟨h.1, ih () Q E p { s with heap := s.heap.update a f } hs h.2⟩
  | alloc o k ih => intro Q E p s hs h; exact ih _ Q E p { s with heap := s.heap.push o } hs h
  | loadIfAlive a k ih => intro Q E p s hs h; exact ih _ Q E p s hs h
  | point l k ih => intro Q E p s hs h; exact ih () Q E p s hs h
  | register a k ih => intro Q E p s hs h; exact h
  | fresh k ih => intro Q E p s hs h; exact ih _ Q E p { s with toks := s.toks + 1 } (Nat.le_succ_of_le hs) h
  | ask k ih => intro Q E p s hs h; exact ih _ Q E p s hs h
  | choose src m k ih => intro Q E p s hs h; exact ⟨h.1, ih _ Q E p { s with drawn := s.drawn.bump src } hs h.2⟩
  | os q l k ih => intro Q E p s hs h; exact ih _ Q E p { s with os := (Os.step s.os q).1 } hs h
  | call c hd g l k ih => intro Q E p s hs h; obtain ⟨r, s', hr, h⟩ := h; exact ⟨r, s', hr, ih r Q E p s' (Nat.le_trans hs (runs_toks hr)) h⟩
  | handled own k ih => intro Q E p s hs h; exact ih _ Q E p s hs h
  | newGen c k ih => intro Q E p s hs h; exact ih _ Q E p { s with gens := s.gens.push (.fresh c) } hs h
  | genState g k ih => intro Q E p s hs h; obtain ⟨st, h1, h⟩ := h; exact ⟨st, h1, ih _ Q E p s hs h⟩
  | resume g r l k ih => intro Q E p s hs h; obtain ⟨res, s', hw, h⟩ := h; exact ⟨res, s', hw, ih res Q E p s' (Nat.le_trans hs (wakes_toks hw)) h⟩
  | yield v g l k ih => intro Q E p s hs h; exact h
  | stack k ih => intro Q E p s hs h; exact ih _ Q E p s hs h
  | fork c k ih => intro Q E p s hs h; exact h
  | thread k ih => intro Q E p s hs h; exact ih _ Q E p s hs h
  | await a t d l k ih => intro Q E p s hs h; exact h
theorem wpAny_toks {α : Type} {M : Model} {A : Around} {t : Sem α} {Q : α → Shared → Prop} {E : Value → Shared → Prop} {s : Shared}
    (h : wpAny M A t (fun a s' => s.toks ≤ s'.toks → Q a s') E s) : wpAny M A t Q E s := fun Γ p hΓ =>
  wp_toks M Γ s.toks t _ _ p s (Nat.le_refl _) (Sem.wp_mono M Γ t (fun a _ s' x => x) (fun a p' s' (x : E a s') => fun (_ : s.toks ≤ s'.toks) => x) p s (h Γ p hΓ))
end Mine
end

section
open PySem PySem.W PyProof.Rows
set_option Elab.async false
set_option maxRecDepth 100000
set_option linter.unusedVariables false
set_option autoImplicit false
namespace Mine

/- a def of the text -/
structure FnAt (c : Cx) (a : Addr) (names : List Str) (body : List Stmt) (scope : Scope) : Prop where
  fd : ∃ o fd, c.h1.get? a = some o ∧ o.data = .func fd ∧ fd.body = .stmts body ∧ fd.scope = scope ∧ fd.globals = mainGlobals ∧ fd.builtins = builtinsNs ∧ fd.closure = [] ∧ c.h1.CodeRec fd.code fd.qualname ∧
    ∀ vs : List Value, vs.length = names.length → bindArgs fd ⟨vs, []⟩ = pure (names.zip vs)
  lim : c.h1.NoLimit

theorem lookup_isSome {l : List (Str × Addr)} {x : Str} {a : Addr} (h : (x, a) ∈ l) : (l.lookup x).isSome = true := by
  induction l with
  | nil => cases h
  | cons p r ih =>
    obtain ⟨y, w⟩ := p
    rw [List.lookup_cons]
    by_cases e : x = y
    · subst e; simp
    · rw [beq_eq_false_iff_ne.mpr e]
      rcases List.mem_cons.mp h with q | q
      · cases q; exact absurd rfl e
      · exact ih q
theorem cellsFrom_acc : ∀ (names : List (Str × NameKind)) (n : Nat) (acc : List (Str × Addr)) (p : Str × Addr), p ∈ acc → p ∈ cellsFrom n names acc
  | [], _, _, _, h => h
  | (x, k) :: r, n, acc, p, h => by
    unfold cellsFrom
    split
    · exact cellsFrom_acc r _ _ p (List.mem_cons_of_mem _ h)
    · exact cellsFrom_acc r _ _ p h
theorem cellsFrom_has : ∀ (names : List (Str × NameKind)) (n : Nat) (acc : List (Str × Addr)) (x : Str), (x, NameKind.cell) ∈ names → ∃ a, (x, a) ∈ cellsFrom n names acc
  | (y, k) :: r, n, acc, x, h => by
    unfold cellsFrom
    rcases List.mem_cons.mp h with q | q
    · cases q
      exact ⟨n, cellsFrom_acc r _ _ _ (by simp)⟩
    · split
      · exact cellsFrom_has r _ _ x q
      · exact cellsFrom_has r _ _ x q

theorem lookup_zip_none {α : Type} : ∀ {names : List Str} {vs : List α} {x : Str}, x ∉ names → (names.zip vs).lookup x = none
  | [], _, _, _ => by simp
  | _ :: _, [], _, _ => by simp
  | y :: r, v :: vs, x, h => by
    simp only [List.zip_cons_cons, List.lookup_cons]
    rw [beq_eq_false_iff_ne.mpr (show x ≠ y from fun e => h (by rw [e]; exact List.mem_cons_self))]
    exact lookup_zip_none fun q => h (List.mem_cons_of_mem _ q)
theorem bindL_zip (k : Str → Option NameKind) : ∀ (names : List Str) (vs : List Value) (m : Str → Option Value) (x : Str), names.Nodup → k x = some .local →
    bindL k (names.zip vs) m x = ((names.zip vs).lookup x).or (m x)
  | [], _, _, _, _, _ => by simp [bindL]
  | _ :: _, [], _, _, _, _ => by simp [bindL]
  | y :: r, v :: vs, m, x, hn, hx => by
    obtain ⟨h1, h2⟩ := List.nodup_cons.mp hn
    simp only [List.zip_cons_cons, bindL, List.lookup_cons]
    rw [bindL_zip k r vs _ x h2 hx]
    by_cases e : x = y
    · subst e
      rw [hx]
      simp only [if_true, beq_self_eq_true, Option.some_or]
      rw [lookup_zip_none h1]; rfl
    · rw [beq_eq_false_iff_ne.mpr e]
      by_cases q : k y = some .local
      · simp [q, e]
      · simp [q]
theorem bindC_zip (k : Str → Option NameKind) : ∀ (names : List Str) (vs : List Value) (m : Str → Option Value) (x : Str), names.Nodup → k x ≠ some .local →
    bindC k (names.zip vs) m x = ((names.zip vs).lookup x).or (m x)
  | [], _, _, _, _, _ => by simp [bindC]
  | _ :: _, [], _, _, _, _ => by simp [bindC]
  | y :: r, v :: vs, m, x, hn, hx => by
    obtain ⟨h1, h2⟩ := List.nodup_cons.mp hn
    simp only [List.zip_cons_cons, bindC, List.lookup_cons]
    rw [bindC_zip k r vs _ x h2 hx]
    by_cases e : x = y
    · subst e
      rw [if_neg hx]
      simp only [if_true, beq_self_eq_true, Option.some_or]
      rw [lookup_zip_none h1]; rfl
    · rw [beq_eq_false_iff_ne.mpr e]
      by_cases q : k y = some .local
      · simp [q]
      · simp [q, e]

theorem zip_slot {c : Cx} {h : Heap} {M : Mut} : ∀ {names : List Str} {ps : List PV} {vs : List Value} {x : Str} {bd : Bd}, Rs c h M ps vs → (names.zip (ps.map Bd.val)).lookup x = some bd →
    ∃ p v, bd = .val p ∧ (names.zip vs).lookup x = some v ∧ R c h M p v
  | [], _, _, _, _, _, e => by simp at e
  | _ :: _, _, _, _, _, .nil, e => by simp at e
  | y :: r, _, _, x, bd, .cons h1 h2, e => by
    simp only [List.map_cons, List.zip_cons_cons, List.lookup_cons] at e ⊢
    by_cases q : x = y
    · subst q; simp at e; subst e; exact ⟨_, _, rfl, by simp, h1⟩
    · rw [beq_eq_false_iff_ne.mpr q] at e ⊢
      exact zip_slot h2 e

noncomputable def paramsOk (names : List Str) (scope : Scope) : Bool :=
  decide names.Nodup && names.all (fun x => scope.names.contains (x, .local) || scope.names.contains (x, .cell)) && names.all (fun x => scope.names.lookup x == some .local || scope.names.lookup x == some .cell) &&
  scope.names.all (fun p => p.2 != .free) && (!scope.isCoroutine) && (!scope.isGenerator) && scope.kind == .function
noncomputable def cellNames (scope : Scope) : List Str := (scope.names.filter fun p => p.2 == .cell).map (·.1)

theorem lookup_mem {α : Type} : ∀ {l : List (Str × α)} {x : Str} {v : α}, l.lookup x = some v → (x, v) ∈ l := fun h => mem_of_lookup h

end Mine
end

section
open PySem PySem.W PyProof.Rows
set_option Elab.async false
set_option maxRecDepth 100000
set_option linter.unusedVariables false
set_option autoImplicit false
namespace Mine

/- a name of the top, or a built-in one -/
noncomputable def GlobV (c : Cx) (x : Str) (v : Value) : Prop :=
  (∃ mg, c.h1.Ns mainGlobals mg ∧ mg x = some v) ∨ (∃ mg mb, c.h1.Ns mainGlobals mg ∧ mg x = none ∧ c.h1.Ns builtinsNs mb ∧ mb x = some v)
/- what may be called plainly -/
noncomputable def Callee (c : Cx) (fv : Value) : Prop := (∃ id, fv = .builtin id) ∨ (∃ T, fv = .type T) ∨ (∃ a o fd, fv = .ref a ∧ c.h1.get? a = some o ∧ o.data = .func fd)
noncomputable def isGlob (b : Blk) (x : Str) : Bool := b.scope.names.lookup x == some .globalImplicit && !(x == ("__debug__" : Str))

section
variable {c : Cx} {b : Blk} {d : Nat} {ρ : Rho}

theorem Fm.loadG {env : Env} {A : Around} {Mo M : Mut} {K : List (Addr × Obj)} {s₀ s : Shared} {x : Str} {v : Value} {Q : Value → Shared → Prop} (F : Fm c b env ρ Mo s₀ K M s)
    (hk : b.scope.names.lookup x = some .globalImplicit) (hg : GlobV c x v) (h : Q v s) : W c A (loadName env x) Q s := by
  rw [loadName_read F.kd (by rw [F.kindOf]; exact hk)]
  rcases hg with ⟨mg, h1, h2⟩ | ⟨mg, mb, h1, h2, h3, h4⟩
  · exact Calls.loadGlobal_global (by rw [F.glob]; exact h1.keeps F.h1) h2 h
  · exact Calls.loadGlobal_builtin (by rw [F.glob]; exact h1.keeps F.h1) h2 (by rw [F.blt]; exact h3.keeps F.h1) h4 h
theorem ev_glob {x : Str} {pos : Pos} {v : Value} {p : PV} (hk : isGlob b x = true) (hg : GlobV c x v) (hr : ∀ h M, R c h M p v) : Eval c b d (.Name x pos) ρ p := .mk fun A env Mo s₀ K M s Q hR F h => by
  simp only [isGlob, Bool.and_eq_true, beq_iff_eq, Bool.not_eq_true'] at hk
  exact wpAny_Name (F.loadG hk.1 hg (h v s (Ex.refl s) (hr _ _))) hk.2

noncomputable def plainArgs (es : List Expr) : Bool := es.all fun e => !isStar e
theorem plain_trees {es : List Expr} (h : plainArgs es = true) (env : Env) (pos : Pos) : (backTo pos (starEach es env)).any (·.1) = false := by
  induction es with
  | nil => rfl
  | cons e r ih =>
    simp only [plainArgs, List.all_cons, Bool.and_eq_true, Bool.not_eq_true'] at h
    rw [starEach_cons h.1]
    show (false || (backTo pos (starEach r env)).any (·.1)) = false
    rw [ih h.2]; rfl
theorem evalArgs_ok {A : Around} {env : Env} {Mo M : Mut} {K : List (Addr × Obj)} {s₀ s : Shared} {fv : Value} {es : List Expr} {ps : List PV} {pos : Pos} {Q : Args → Shared → Prop}
    (h1 : Evals c b d es ρ ps) (hpl : plainArgs es = true) (hR : Room d A) (F : Fm c b env ρ Mo s₀ K M s) (k : ∀ vs s', Ex s s' → Rs c s'.heap M ps vs → Q ⟨vs, []⟩ s') :
    W c A (evalArgs fv true (backTo pos (starEach es env)) []) Q s := by
  cases es with
  | nil =>
    have hh := h1.run A env Mo s₀ K M s pos (fun vs s' => Q ⟨vs, []⟩ s') hR F fun vs s' e r _ => k vs s' e r
    unfold evalArgs
    show W c A (spliced [] >>= _) Q s
    refine wpAny_bind (wpAny_mono hh (fun vs s' h' => ?_) fun _ _ x => x)
    refine wpAny_bind (wpAny_pure (wpAny_holding ?_))
    exact wpAny_bind (wpAny_pure (wpAny_bind (wpAny_pure (wpAny_pure h'))))
  | cons e r =>
    simp only [plainArgs, List.all_cons, Bool.and_eq_true, Bool.not_eq_true'] at hpl
    have hh := h1.run A env Mo s₀ K M s pos (fun vs s' => Q ⟨vs, []⟩ s') hR F fun vs s' e r _ => k vs s' e r
    rw [starEach_cons hpl.1] at hh ⊢
    exact Calls.evalArgs_plain hh
theorem callWith_ok {A : Around} {env : Env} {Mo M : Mut} {K : List (Addr × Obj)} {s₀ s : Shared} {fv : Value} {first : List Value} {es : List Expr} {ps : List PV} {pos : Pos} {Q : Value → Shared → Prop}
    (hc : Callee c fv) (h1 : Evals c b d es ρ ps) (hpl : plainArgs es = true) (hR : Room d A) (F : Fm c b env ρ Mo s₀ K M s) (k : ∀ vs s', Ex s s' → Rs c s'.heap M ps vs → W c A (call fv (first ++ vs)) Q s') :
    W c A (callWith pos fv first (backTo pos (starEach es env)) []) Q s := by
  rcases hc with ⟨id, rfl⟩ | ⟨T, rfl⟩ | ⟨a, o, fd, rfl, ho, hd⟩
  · exact Calls.callWith_builtin (plain_trees hpl env pos) (evalArgs_ok h1 hpl hR F fun vs s' e r => k vs s' e r)
  · exact PyProof.Rows.callWith_type (plain_trees hpl env pos) (evalArgs_ok h1 hpl hR F fun vs s' e r => k vs s' e r)
  · exact Calls.callWith_function (o := o) (fd := fd) (evalArgs_ok h1 hpl hR F fun vs s' e r => ⟨⟨(F.ex e).h1 _ _ ho, hd⟩, k vs s' e r⟩)

/- a call by a name of the top -/
theorem ev_call {f : Str} {pf pos : Pos} {es : List Expr} {ps : List PV} {fv : Value} {r : PV} (hk : isGlob b f = true) (hg : GlobV c f fv) (hc : Callee c fv) (h1 : Evals c b d es ρ ps)
    (op : Op c d (fun vs => call fv vs) ps r) (hpl : plainArgs es = true) : Eval c b d (.Call (.Name f pf) es [] pos) ρ r := .mk fun A env Mo s₀ K M s Q hR F h => by
  simp only [isGlob, Bool.and_eq_true, beq_iff_eq, Bool.not_eq_true'] at hk
  refine Call_Name rfl (wpAny_Name (F.loadG hk.1 hg ?_) hk.2)
  exact callWith_ok hc h1 hpl hR F fun vs s' e hr => op.run A M s' vs Q hR (F.ex e).toBase hr fun v s'' e' rv => h v s'' (e.trans e') rv

theorem op_len_str (l : List Nat) (hl : (l.length : Int) < 2 ^ 63) : Op c d (fun vs => call (.builtin "len") vs) [.str l] (.int l.length) := .mk fun A M s vs Q hR B hr h => by
  obtain ⟨v1, rfl, h1⟩ := hr.one_inv; obtain ⟨t1, rfl⟩ := h1.str_inv; exact P.len_str (by show ¬ ((l.length : Int) ≥ 2 ^ 63); lia) (h _ _ (ex2 s) (.int _ _))
theorem op_len_list (l : List PV) (hl : (l.length : Int) < 2 ^ 63) : Op c d (fun vs => call (.builtin "len") vs) [.list l] (.int l.length) := .mk fun A M s vs Q hR B hr h => by
  cases hr with
  | cons h1 h2 =>
    cases h2
    obtain ⟨a, vs, n, rfl, h1, h2, h3⟩ := h1.list_inv
    have e := h3.length
    refine Calls.call_len_list (items := vs.toArray) ⟨_, h2, rfl, n, rfl⟩ (by simpa [e] using hl) ?_
    have e2 : ((vs.toArray.size : Nat) : Int) = (l.length : Int) := by simp [e]
    rw [e2]
    exact h _ _ (ex2 s) (.int _ _)
theorem op_range1 (n : Int) : Op c d (fun vs => call (.type "range") vs) [.int n] (.rng 0 n) := .mk fun A M s vs Q hR B hr h => by
  cases hr with
  | cons h1 h2 =>
    cases h2; cases h1
    refine call_range_1 (h _ _ ⟨fun _ _ e => Heap.get?_push_of_some _ e, rfl, by show s.toks ≤ s.toks + 1 + 1; lia, id, fun _ _ e => e⟩ (.rng B.fresh (Heap.get?_push_size _ rfl)))
theorem op_range2 (a n : Int) : Op c d (fun vs => call (.type "range") vs) [.int a, .int n] (.rng a n) := .mk fun A M s vs Q hR B hr h => by
  cases hr with
  | cons h1 h2 =>
    cases h2 with
    | cons h2 h3 =>
      cases h3; obtain ⟨t1, rfl⟩ := h1.int_inv; obtain ⟨t2, rfl⟩ := h2.int_inv
      refine call_range_2 (h _ _ ⟨fun _ _ e => Heap.get?_push_of_some _ e, rfl, by show s.toks ≤ s.toks + 1; lia, id, fun _ _ e => e⟩ (.rng B.fresh (Heap.get?_push_size _ rfl)))
theorem op_max2 (a n : Int) : Op c d (fun vs => call (.builtin "max") vs) [.int a, .int n] (.int (if n > a then n else a)) := .mk fun A M s vs Q hR B hr h => by
  cases hr with
  | cons h1 h2 =>
    cases h2 with
    | cons h2 h3 =>
      cases h3; obtain ⟨t1, rfl⟩ := h1.int_inv; obtain ⟨t2, rfl⟩ := h2.int_inv
      refine wpAny_toks (max_two_ints hR.handled fun h' tk hk => fun htk => h _ _ ⟨hk, rfl, htk, id, fun _ _ e => e⟩ ?_)
      split <;> exact .int _ _
theorem op_tuple (l : List PV) (hl : l.length ≤ 16777216) : Op c d (fun vs => call (.type "tuple") vs) [.list l] (.tup l) := .mk fun A M s vs Q hR B hr h => by
  cases hr with
  | cons h1 h2 =>
    cases h2
    obtain ⟨a, vs, n, rfl, h1, h2, h3⟩ := h1.list_inv
    refine call_tuple_list (items := vs.toArray) ⟨_, h2, rfl, n, rfl⟩ (fun h' hk => ?_) (by show vs.length ≤ 16777216; rw [h3.length]; exact hl)
    have e1 : Ex s { s with heap := h' } := ⟨hk, rfl, Nat.le_refl _, id, fun _ _ e => e⟩
    exact h _ _ (e1.trans (Ex.push _ _)) (R.newTup (s := { s with heap := h' }) (B.ex e1) (h3.ex e1))
end
end Mine
end

section
open PySem PySem.W PyProof.Rows
open PySem.Builtin PySem.Builtin.Str
set_option Elab.async false
set_option maxRecDepth 100000
set_option linter.unusedVariables false
set_option autoImplicit false
namespace Mine

noncomputable def tl (x : Str) : List Nat := x.cps.toList
section
variable {c : Cx} {b : Blk} {d : Nat} {ρ : Rho}

/- a method of a text -/
theorem few_args {es : List Expr} {env : Env} {pos : Pos} (hpl : plainArgs es = true) (hfew : es.length < 30) :
    ((backTo pos (starEach es env)).all (fun x => !x.1) && (backToKw pos (keywordEach [] env)).all (fun x => x.1.isSome) && decide (es.length + ([] : List Keyword).length + (if ([] : List Keyword).isEmpty then 0 else 1) < 30)) = true := by
  have hall : (backTo pos (starEach es env)).all (fun x => !x.1) = true := by
    have := plain_trees hpl env pos
    rw [List.any_eq_false] at this
    rw [List.all_eq_true]
    intro x hx
    have := this x hx
    cases q : x.1 with
    | true => exact absurd q this
    | false => rfl
  rw [hall]
  show (true && true && decide (es.length < 30)) = true
  rw [decide_eq_true hfew]; rfl
theorem ev_meth_str {o : Expr} {name : Str} {apos pos : Pos} {es : List Expr} {id : String} {l : List Nat} {ps : List PV} {r : PV} (slot : _root_.PySem.Slot "str" name id) (ty : typeOf (.builtin id) = pure (.type "method_descriptor"))
    (h0 : Eval c b d o ρ (.str l)) (h1 : Evals c b d es ρ ps) (op : Op c d (fun vs => call (.builtin id) vs) (.str l :: ps) r)
    (hbase : ∀ env, attributeBase o name env (eval o env) = eval o env) (hline : (apos.endLine == pos.line) = true) (hpl : plainArgs es = true) (hfew : es.length < 30) :
    Eval c b d (.Call (.Attribute o name apos) es [] pos) ρ r := .mk fun A env Mo s₀ K M s Q hR F h => by
  refine wpAny_Call_method_lateS (hbase env) ?_ hline (h0.run A env Mo s₀ K M s _ hR F fun v s' e hr => ?_)
  · exact few_args hpl hfew
  · cases hr with
    | str l t =>
      refine ⟨"str", id, PySem.F.plainAttrs_str, slot, ty, typeIs_str _ _ _, (fun _ e => nomatch e), ?_⟩
      exact callWith_ok (.inl ⟨id, rfl⟩) h1 hpl hR (F.ex e) fun vs s2 e2 hrs => op.run A M s2 (.str (txt l) t :: vs) Q hR (F.ex (e.trans e2)).toBase (.cons (.str l t) hrs) fun v s3 e3 rv => h v s3 ((e.trans e2).trans e3) rv

theorem op_startswith (l y : List Nat) : Op c d (fun vs => call (.builtin "str.startswith") vs) [.str l, .str y] (.bool (Txt.startswith (txt l) (txt y))) := .mk fun A M s vs Q hR B hr h => by
  obtain ⟨v1, v2, rfl, h1, h2⟩ := hr.two_inv; obtain ⟨t1, rfl⟩ := h1.str_inv; obtain ⟨t2, rfl⟩ := h2.str_inv; exact SC.startswith (h _ _ (Ex.refl s) (.bool _))
theorem op_endswith (l y : List Nat) : Op c d (fun vs => call (.builtin "str.endswith") vs) [.str l, .str y] (.bool (Txt.endswith (txt l) (txt y))) := .mk fun A M s vs Q hR B hr h => by
  obtain ⟨v1, v2, rfl, h1, h2⟩ := hr.two_inv; obtain ⟨t1, rfl⟩ := h1.str_inv; obtain ⟨t2, rfl⟩ := h2.str_inv; exact SC.endswith (h _ _ (Ex.refl s) (.bool _))
noncomputable def find4 (x y : Str) (i j : Int) : Int := match occurrences x y (fromIndex x.length i) (min (fromIndex x.length j) x.length) 1 with | k :: _ => (k : Int) | [] => -1
theorem gives_find4 (x y : Str) (i j : Int) (t u v w : Tok) : Gives («str.find» ⟨[.str x t, .str y u, .int i v, .int j w], []⟩) (.int (find4 x y i j)) := by
  show Gives (match occurrences x y (fromIndex x.length i) (min (fromIndex x.length j) x.length) 1 with | k :: _ => retInt k | [] => (do rule "str.find.not-found"; retInt (-1))) _
  unfold find4
  cases occurrences x y (fromIndex x.length i) (min (fromIndex x.length j) x.length) 1 with
  | nil => exact .rule (.of_eq rfl)
  | cons k _ => exact .of_eq rfl
theorem op_find4 (l y : List Nat) (i j : Int) : Op c d (fun vs => call (.builtin "str.find") vs) [.str l, .str y, .int i, .int j] (.int (find4 (txt l) (txt y) i j)) := .mk fun A M s vs Q hR B hr h => by
  cases hr with | cons h1 h2 => cases h2 with | cons h2 h3 => cases h3 with | cons h3 h4 => cases h4 with | cons h4 h5 =>
    cases h5; obtain ⟨t1, rfl⟩ := h1.str_inv; obtain ⟨t2, rfl⟩ := h2.str_inv; obtain ⟨t3, rfl⟩ := h3.int_inv; obtain ⟨t4, rfl⟩ := h4.int_inv
    exact call_gives F.slot_str_find (typeIs_str _ _ _) F.entry_str_find (F.args_str_find_4 _ _ _ _) (gives_find4 _ _ _ _ _ _ _ _) (h _ _ (ex1 s) (.int _ _))

/- texts as values -/
noncomputable def strPs (xs : List Str) : List PV := xs.map fun x => .str (tl x)
theorem rs_strsFrom {h : Heap} {M : Mut} : ∀ (k : Nat) (xs : List Str), Rs c h M (strPs xs) (strsFrom k xs)
  | _, [] => .nil
  | k, x :: r => .cons (.str (tl x) k) (rs_strsFrom (k + 1) r)
theorem rs_strValues {h : Heap} {M : Mut} : ∀ (xs : List Str) (vs : List Value), Rs c h M (strPs xs) vs → ∃ l : List (Str × Tok), vs = strValues l ∧ l.map (·.1) = xs
  | [], _, .nil => ⟨[], rfl, rfl⟩
  | x :: r, _, .cons h1 h2 => by
    obtain ⟨l, rfl, e⟩ := rs_strValues r _ h2
    cases h1 with
    | str _ t => exact ⟨(x, t) :: l, rfl, by simp [e]⟩

/- split: a fresh list of the very form -/
structure OpNew (c : Cx) (d : Nat) (t : List Value → Sem Value) (args : List PV) (l : List PV) : Prop where
  run : ∀ (A : Around) (M : Mut) (s : Shared) (vs : List Value) (Q : Value → Shared → Prop), Room d A → Base c M s → Rs c s.heap M args vs →
    (∀ a us n s', Ex s s' → s.heap.get? a = none → s'.heap.get? a = some (listObj us n) → Rs c s.heap M l us → Q (.ref a) s') → W c A (t vs) Q s
theorem fresh_none (s : Shared) : s.heap.get? s.heap.objs.size = none := by
  cases q : s.heap.get? s.heap.objs.size with
  | none => rfl
  | some o => exact absurd (Heap.lt_size q) (Nat.lt_irrefl _)
theorem op_split (l y : List Nat) (hy : y.length ≠ 0) (hl : l.length + 2 ≤ 16777216) : OpNew c d (fun vs => call (.builtin "str.split") vs) [.str l, .str y] (strPs (Txt.split (txt l) (txt y))) := .mk fun A M s vs Q hR B hr k => by
  obtain ⟨v1, v2, rfl, h1, h2⟩ := hr.two_inv
  obtain ⟨t, rfl⟩ := h1.str_inv
  obtain ⟨u, rfl⟩ := h2.str_inv
  have hy' : ((txt y).length == 0) = false := beq_eq_false_iff_ne.mpr hy
  unfold Txt.split at k
  cases h1 : (decide ((txt l).length < (txt y).length) || decide (strKind (txt l) < strKind (txt y)))
  · rw [h1, if_neg (by decide)] at k
    cases hf : (occurrences (txt l) (txt y) 0 (txt l).length ((txt l).length + 1)).isEmpty
    · rw [hf, if_neg (by decide)] at k
      have hn : (partsBetween (txt l) (occurrences (txt l) (txt y) 0 (txt l).length ((txt l).length + 1)) (txt y).length).length ≤ sizeLine := by
        rw [length_partsBetween]
        have := StrLaws.occ_length_le (txt l) (txt y) 0 (txt l).length ((txt l).length + 1)
        show _ ≤ 16777216
        have e : (txt l).length = l.length := rfl
        lia
      refine call_meets F.slot_str_split (typeIs_str _ _ _) F.entry_str_split (F.args_str_split_2 _ _) (meets_str_split_sep (txt l) (txt y) t u h1 hy' hf (by show l.length ≤ 16777216; lia) hn) ?_
      exact k s.heap.objs.size _ 0 _ ⟨fun _ _ e => Heap.get?_push_of_some _ e, rfl, Nat.le_add_right _ _, id, fun _ _ e => e⟩ (fresh_none s) (Heap.get?_push_size _ rfl) (rs_strsFrom _ _)
    · rw [hf, if_pos rfl] at k
      exact call_meets F.slot_str_split (typeIs_str _ _ _) F.entry_str_split (F.args_str_split_2 _ _) (meets_str_split_not_found (txt l) (txt y) t u h1 hy' hf)
        (k s.heap.objs.size [.str (txt l) t] 0 _ (Ex.push s _) (fresh_none s) (Heap.get?_push_size _ rfl) (.cons (.str l t) .nil))
  · rw [h1, if_pos rfl] at k
    exact call_meets F.slot_str_split (typeIs_str _ _ _) F.entry_str_split (F.args_str_split_2 _ _) (meets_str_split_cannot_occur (txt l) (txt y) t u h1)
        (k s.heap.objs.size [.str (txt l) t] 0 _ (Ex.push s _) (fresh_none s) (Heap.get?_push_size _ rfl) (.cons (.str l t) .nil))
end
end Mine
end

section
open PySem PySem.W PyProof.Rows
open PySem.Builtin PySem.Builtin.Str
set_option Elab.async false
set_option maxRecDepth 100000
set_option linter.unusedVariables false
set_option autoImplicit false
namespace Mine

noncomputable def pick {α : Type} (l : List α) (ix : List Nat) : List α := ix.filterMap (l[·]?)
noncomputable def itemAt {α : Type} (l : List α) (k : Int) : Option α := (seqIndex? k l.length).bind (l[·]?)
noncomputable def sliceIx (lo hi st : Option Int) (n : Nat) : List Nat := sliceRange (sliceBounds lo hi st n).1 (sliceBounds lo hi st n).2.1 (sliceBounds lo hi st n).2.2
theorem strSlice_eq (lo hi st : Option Int) (n : Nat) : strSliceIndices lo hi (st.getD 1) n = sliceIx lo hi st n := by
  unfold strSliceIndices sliceIx sliceBounds
  cases lo <;> cases hi <;> rfl

theorem pick_range {α : Type} (l : List α) : pick l (List.range l.length) = l := by
  unfold pick
  induction l with
  | nil => rfl
  | cons x r ih =>
    rw [List.length_cons, List.range_succ_eq_map, List.filterMap_cons]
    simp only [List.getElem?_cons_zero]
    rw [List.filterMap_map]
    have : (fun i => (x :: r)[i]?) ∘ Nat.succ = fun i => r[i]? := by funext i; simp
    rw [this, ih]
theorem sliceRange_one (a b : Int) : sliceRange a b 1 = (List.range (b - a).toNat).map fun (k : Nat) => (a + (k : Int)).toNat := by
  unfold sliceRange
  simp only [show (1 : Int) > 0 by decide, if_true, Int.one_mul]
  by_cases h : a < b
  · simp only [h, if_true]
    have : (b - a + 1 - 1) / 1 = b - a := by rw [Int.ediv_one]; lia
    rw [this]
  · simp only [h, if_false]
    have : (b - a).toNat = 0 := by lia
    rw [this]; rfl
theorem pick_whole {α : Type} (l : List α) (lo hi st : Option Int) (h1 : st.getD 1 = 1) (h2 : (sliceIx lo hi st l.length).length = l.length) : pick l (sliceIx lo hi st l.length) = l := by
  have key : ∃ a b : Int, sliceIx lo hi st l.length = sliceRange a b 1 ∧ 0 ≤ a ∧ b ≤ l.length := by
    unfold sliceIx sliceBounds
    simp only [h1, show (1 : Int) > 0 by decide, if_true]
    refine ⟨_, _, rfl, ?_, ?_⟩
    · cases lo with
      | none => simp
      | some i => dsimp only; lia
    · cases hi with
      | none => simp
      | some i => dsimp only; lia
  obtain ⟨a, b, e, ha, hb⟩ := key
  rw [e, sliceRange_one] at h2 ⊢
  rw [List.length_map, List.length_range] at h2
  cases l with
  | nil => unfold pick; simp only [List.length_nil] at h2; rw [h2]; rfl
  | cons x r =>
    simp only [List.length_cons] at hb h2
    have ea : a = 0 := by lia
    subst ea
    have eb : (b - 0).toNat = (x :: r).length := by rw [List.length_cons]; exact h2
    rw [eb]
    have : ((List.range (x :: r).length).map fun (k : Nat) => (0 + (k : Int)).toNat) = List.range (x :: r).length := by
      conv => rhs; rw [← List.map_id (List.range (x :: r).length)]
      apply List.map_congr_left
      intro k _
      simp
    rw [this]
    exact pick_range _

section
variable {c : Cx} {b : Blk} {d : Nat} {ρ : Rho}

theorem Rs.pick {h : Heap} {M : Mut} {l : List PV} {vs : List Value} (x : Rs c h M l vs) : ∀ (ix : List Nat), Rs c h M (pick l ix) (pick vs ix)
  | [] => .nil
  | i :: r => by
    unfold Mine.pick
    rw [List.filterMap_cons, List.filterMap_cons]
    cases hl : l[i]? with
    | none =>
      have : vs[i]? = Option.none := by
        rw [List.getElem?_eq_none_iff] at hl ⊢; rw [x.length]; exact hl
      rw [this]; exact x.pick r
    | some p =>
      obtain ⟨v, hv, hr⟩ := x.get i p hl
      rw [hv]; exact .cons hr (x.pick r)

theorem isSub (slice : Expr) (o i : Value) : ∃ ops, subscripted slice false o i = operate ops (getItem o i) := by
  cases slice with
  | Slice lo hi st pos => cases st <;> exact ⟨_, rfl⟩
  | _ => exact ⟨_, rfl⟩

/- an item by its place -/
structure Item (c : Cx) (p q r : PV) : Prop where
  run : ∀ (A : Around) (M : Mut) (s : Shared) (v u : Value) (Q : Value → Shared → Prop), Room 0 A → Base c M s → R c s.heap M p v → R c s.heap M q u →
    (∀ v s', Ex s s' → R c s'.heap M r v → Q v s') → ∃ T id, s.TypeIs v T ∧ typeLookup (.type T) "__getitem__" = pure (some (.builtin id)) ∧ W c A (getItem v u) Q s
theorem ev_sub {value slice : Expr} {pos : Pos} {p q r : PV} (h1 : Eval c b d value ρ p) (h2 : Eval c b d slice ρ q) (h3 : Item c p q r) : Eval c b d (.Subscript value slice pos) ρ r :=
  .mk fun A env Mo s₀ K M s Q hR F h => Subscript_ (two h1 h2 hR F fun v u s' e r1 r2 => by
    obtain ⟨T, id, hT, hl, hw⟩ := h3.run A M s' v u Q hR.zero (F.ex e).toBase r1 r2 fun w s'' e' rw => h w s'' (e.trans e') rw
    obtain ⟨ops, ho⟩ := isSub slice v u
    exact tail_any hT hl hw ho)

theorem seqIndex_nonneg {k : Int} {n j : Nat} (h : seqIndex? k n = some j) : (0 ≤ k ∧ j = k.toNat ∧ j < n) ∨ (k < 0 ∧ -(n : Int) ≤ k ∧ j = (k + n).toNat ∧ j < n) := by
  unfold seqIndex? at h
  by_cases hk : k < 0
  · simp only [hk, if_true] at h
    by_cases hc : (decide (0 ≤ k + (n : Int)) && decide (k + (n : Int) < n)) = true
    · rw [if_pos hc] at h; cases h
      simp only [Bool.and_eq_true, decide_eq_true_eq] at hc
      right; lia
    · rw [if_neg hc] at h; cases h
  · simp only [hk, if_false] at h
    by_cases hc : (decide (0 ≤ k) && decide (k < (n : Int))) = true
    · rw [if_pos hc] at h; cases h
      simp only [Bool.and_eq_true, decide_eq_true_eq] at hc
      left; lia
    · rw [if_neg hc] at h; cases h

theorem item_list {l : List PV} {k : Int} {p : PV} (h : itemAt l k = some p) (hlo : -(2 ^ 63) ≤ k) (hhi : k < 2 ^ 63) : Item c (.list l) (.int k) p := .mk fun A M s v u Q hR B r1 r2 hq => by
  obtain ⟨a, vs, n, rfl, h1, h2, h3⟩ := r1.list_inv
  obtain ⟨t2, rfl⟩ := r2.int_inv
  have hl : s.heap.IsList a vs.toArray := ⟨_, h2, rfl, n, rfl⟩
  refine ⟨"list", _, hl.typeIs, slot_list_getitem.lookup, ?_⟩
  unfold itemAt at h
  cases hj : seqIndex? k l.length with
  | none => rw [hj] at h; cases h
  | some j =>
    rw [hj] at h
    obtain ⟨w, hw, hr⟩ := h3.get j p h
    rcases seqIndex_nonneg hj with ⟨h0, rfl, _⟩ | ⟨h0, h1', hj', _⟩
    · exact wpAny_getItem_list hl h0 hhi (by simpa using hw) (hq w s (Ex.refl s) hr)
    · subst hj'
      have e : vs.toArray.size = l.length := by simp [h3.length]
      exact wpAny_getItem_list_neg hl h0 (by rw [e]; exact h1') hlo (by rw [e]; simpa using hw) (hq w s (Ex.refl s) hr)
theorem R.tup_inv {h : Heap} {M : Mut} {l : List PV} {v : Value} (r : R c h M (.tup l) v) : ∃ a vs, v = .ref a ∧ ¬ M a ∧ h.get? a = some (tupObj vs) ∧ Rs c h M l vs := by
  cases r with
  | tup h1 h2 h3 => exact ⟨_, _, rfl, h1, h2, h3⟩
theorem item_tup {l : List PV} {k : Int} {p : PV} (h : itemAt l k = some p) (hlo : -(2 ^ 63) ≤ k) (hhi : k < 2 ^ 63) : Item c (.tup l) (.int k) p := .mk fun A M s v u Q hR B r1 r2 hq => by
  obtain ⟨a, vs, rfl, h1, h2, h3⟩ := r1.tup_inv
  obtain ⟨t2, rfl⟩ := r2.int_inv
  have hl : IsTup s.heap a vs.toArray := ⟨_, h2, rfl, 0, rfl⟩
  refine ⟨"tuple", _, hl.typeIs, slot_tuple_getitem.lookup, ?_⟩
  unfold itemAt at h
  cases hj : seqIndex? k l.length with
  | none => rw [hj] at h; cases h
  | some j =>
    rw [hj] at h
    obtain ⟨w, hw, hr⟩ := h3.get j p h
    exact PyProof.Rows.getItem_tuple hl hlo hhi (by simpa [h3.length] using hj) (by simpa using hw) (hq w s (Ex.refl s) hr)
theorem item_str {l : List Nat} {k : Int} {n : Nat} (h : itemAt l k = some n) (hlo : -(2 ^ 63) ≤ k) (hhi : k < 2 ^ 63) : Item c (.str l) (.int k) (.str [n]) := .mk fun A M s v u Q hR B r1 r2 hq => by
  obtain ⟨t1, rfl⟩ := r1.str_inv; obtain ⟨t2, rfl⟩ := r2.int_inv
  refine ⟨"str", _, typeIs_str _ _ _, PySem.F.slot_str_getitem.lookup, ?_⟩
  refine P.getItem_str (c := n) (by simp; lia) ?_ (hq _ _ (ex1 s) (.str [n] _))
  unfold itemAt at h
  show (seqIndex? k l.length).bind _ = _
  rw [← h]
  congr 1
  funext i
  show (Array.mk l)[i]? = l[i]?
  simp

/- a cut -/
noncomputable def EvalPart (c : Cx) (b : Blk) (d : Nat) (e : Option Expr) (ρ : Rho) (k : Option Int) : Prop := match e, k with
  | none, none => True
  | some e, some i => Eval c b d e ρ (.int i)
  | _, _ => False
theorem part_ok {A : Around} {env : Env} {Mo : Mut} {s₀ : Shared} {K : List (Addr × Obj)} {M : Mut} {s : Shared} {e : Option Expr} {k : Option Int} {Q : Value → Shared → Prop} (h1 : EvalPart c b d e ρ k) (hR : Room d A) (F : Fm c b env ρ Mo s₀ K M s)
    (h : ∀ t s', Ex s s' → Q (partValue (k.map fun i => (i, t))) s') : W c A (evalPart e env) Q s := by
  match e, k, h1 with
  | none, none, _ => exact wpAny_pure (h 0 s (Ex.refl s))
  | some e, some i, h1 => exact h1.run A env Mo s₀ K M s Q hR F fun v s' e r => by obtain ⟨t, rfl⟩ := r.int_inv; exact h t s' e
theorem part_is (k : Option Int) (t : Tok) : IsPart (partValue (k.map fun i => (i, t))) k := by
  cases k with
  | none => exact .none
  | some i => exact .int i t
/- what is cut -/
structure Cut (c : Cx) (lo hi st : Option Int) (p r : PV) : Prop where
  run : ∀ (A : Around) (M : Mut) (s : Shared) (v : Value) (sl : Addr) (t1 t2 t3 : Tok) (Q : Value → Shared → Prop), Room 0 A → Base c M s → R c s.heap M p v →
    s.heap.get? sl = some { cls := .type "slice", data := .fields #[partValue (lo.map fun i => (i, t1)), partValue (hi.map fun i => (i, t2)), partValue (st.map fun i => (i, t3))] } →
    (∀ v s', Ex s s' → R c s'.heap M r v → Q v s') → ∃ T id, s.TypeIs v T ∧ typeLookup (.type T) "__getitem__" = pure (some (.builtin id)) ∧ W c A (getItem v (.ref sl)) Q s
theorem ev_cut {value : Expr} {lo hi st : Option Expr} {ps pos : Pos} {l h s : Option Int} {p r : PV} (h0 : Eval c b d value ρ p) (h1 : EvalPart c b d lo ρ l) (h2 : EvalPart c b d hi ρ h) (h3 : EvalPart c b d st ρ s) (h4 : Cut c l h s p r) :
    Eval c b d (.Subscript value (.Slice lo hi st ps) pos) ρ r := .mk fun A env Mo s₀ K M sh Q hR F k => Subscript_ (h0.run A env Mo s₀ K M sh _ hR F fun v s1 e1 r1 =>
    wpAny_Slice (part_ok h1 hR (F.ex e1) fun t1 s2 e2 => part_ok h2 hR (F.ex (e1.trans e2)) fun t2 s3 e3 => part_ok h3 hR (F.ex ((e1.trans e2).trans e3)) fun t3 s4 e4 => by
      have e14 := ((e1.trans e2).trans e3).trans e4
      have e5 := e14.trans (Ex.push s4 { cls := .type "slice", data := .fields #[partValue (l.map fun i => (i, t1)), partValue (h.map fun i => (i, t2)), partValue (s.map fun i => (i, t3))] })
      obtain ⟨T, id, hT, hl, hw⟩ := h4.run A M _ v _ t1 t2 t3 Q hR.zero (F.ex e5).toBase ((r1.ex ((e2.trans e3).trans e4)).ex (Ex.push s4 _)) (Heap.get?_push_size _ rfl) fun w s'' e' rw => k w s'' (e5.trans e') rw
      obtain ⟨ops, ho⟩ := isSub (.Slice lo hi st ps) v (.ref s4.heap.objs.size)
      exact tail_any hT hl hw ho))
theorem cut_list {l : List PV} {lo hi st : Option Int} (h0 : st ≠ some 0) (hl : l.length ≤ 16777216) : Cut c lo hi st (.list l) (.list (pick l (sliceIx lo hi st l.length))) := .mk fun A M s v sl t1 t2 t3 Q hR B r1 hs hq => by
  obtain ⟨a, vs, n, rfl, h1, h2, h3⟩ := r1.list_inv
  have hL : s.heap.IsList a vs.toArray := ⟨_, h2, rfl, n, rfl⟩
  refine ⟨"list", _, hL.typeIs, slot_list_getitem.lookup, ?_⟩
  refine wpAny_getItem_list_slice hL ⟨_, hs, rfl, rfl⟩ (part_is lo t1) (part_is hi t2) (part_is st t3) h0 ?_ (by show vs.length ≤ 16777216; rw [h3.length]; exact hl)
  have e : slicePick vs.toArray lo hi st = (pick vs (sliceIx lo hi st l.length)).toArray := by
    unfold slicePick pick sliceIx
    have : vs.toArray.size = l.length := by simp [h3.length]
    rw [this]
    congr 2
    funext i
    simp
  rw [e]
  exact hq _ _ (Ex.push s _) (R.newList B (h3.pick _))
theorem cut_str {l : List Nat} {lo hi st : Option Int} (h0 : st ≠ some 0) (hl : l.length ≤ 16777216) : Cut c lo hi st (.str l) (.str (pick l (sliceIx lo hi st l.length))) := .mk fun A M s v sl t1 t2 t3 Q hR B r1 hs hq => by
  obtain ⟨t, rfl⟩ := r1.str_inv

  refine ⟨"str", _, typeIs_str _ _ _, PySem.F.slot_str_getitem.lookup, ?_⟩
  have e1 : ∀ (k : Option Int) (t : Tok), ((k.map fun i => (i, t)).map (·.1)) = k := fun k t => by cases k <;> rfl
  refine wpAny_getItem_str_slice (l := lo.map fun i => (i, t1)) (u := hi.map fun i => (i, t2)) (st := st.map fun i => (i, t3)) ⟨_, hs, rfl, rfl⟩ (by
    rw [e1]
    cases st with
    | none => rfl
    | some k => simp only [Option.getD_some]; exact beq_eq_false_iff_ne.mpr fun q => h0 (by rw [q])) ?_
  have hx : slicePicked (txt l) (lo.map fun i => (i, t1)) (hi.map fun i => (i, t2)) (st.map fun i => (i, t3)) = sliceIx lo hi st l.length := by
    unfold slicePicked
    rw [e1, e1, e1, strSlice_eq]; rfl
  have hy : ((sliceIx lo hi st l.length).filterMap ((txt l).cps[·]?)) = pick l (sliceIx lo hi st l.length) := by
    unfold pick; congr 1; funext i; show (Array.mk l)[i]? = _; simp
  have hlen : (pick l (sliceIx lo hi st l.length)).length ≤ l.length := by
    have := slicePick_size_le (l.map fun (n : Nat) => Value.int (n : Int) 0).toArray lo hi st
    unfold slicePick at this
    rw [List.size_toArray, List.size_toArray, List.length_map] at this
    have q : ((sliceIx lo hi st l.length).filterMap ((l.map fun (n : Nat) => Value.int (n : Int) 0).toArray[·]?)).length = (pick l (sliceIx lo hi st l.length)).length := by
      unfold pick
      have : ∀ ix : List Nat, (ix.filterMap ((l.map fun (n : Nat) => Value.int (n : Int) 0).toArray[·]?)).length = (ix.filterMap (l[·]?)).length := fun ix => by
        induction ix with
        | nil => rfl
        | cons i r ih =>
          rw [List.filterMap_cons, List.filterMap_cons]
          have e : (l.map fun (n : Nat) => Value.int (n : Int) 0).toArray[i]? = (l[i]?).map fun (n : Nat) => Value.int (n : Int) 0 := by simp
          rw [e]
          cases l[i]? with
          | none => exact ih
          | some x => exact congrArg (· + 1) ih
      exact this _
    unfold sliceIx at q
    rw [q] at this
    exact this
  unfold sliceMade
  rw [hx, e1]
  split
  · rename_i hc
    -- the whole text
    simp only [Bool.and_eq_true, beq_iff_eq] at hc
    have := pick_whole l lo hi st hc.1 hc.2
    rw [this] at hq
    exact hq _ _ (Ex.refl s) (.str _ _)
  · refine ⟨?_, ?_⟩
    · rw [hy]; show (pick l (sliceIx lo hi st l.length)).length ≤ 16777216; lia
    · rw [hy]; exact hq _ _ (ex1 s) (.str _ _)

theorem op_add_list (l l' : List PV) (hl : l.length + l'.length ≤ 16777216) : Op2 c (binaryOp .Add) (.list l) (.list l') (.list (l ++ l')) := .mk fun A M s v u Q hR B r1 r2 h => by
  obtain ⟨a, vs, n, rfl, h1, h2, h3⟩ := r1.list_inv
  obtain ⟨a', vs', n', rfl, h1', h2', h3'⟩ := r2.list_inv
  refine P.add_list h2 h2' ?_ (by show vs.length + vs'.length ≤ 16777216; rw [h3.length, h3'.length]; exact hl)
  have e : vs.toArray ++ vs'.toArray = (vs ++ vs').toArray := by simp
  rw [e]
  exact h _ _ (Ex.push s _) (R.newList B (h3.append h3'))
end
end Mine
end

section
open PySem PySem.W PyProof.Rows
open PySem.Builtin PySem.Builtin.Str
set_option Elab.async false
set_option maxRecDepth 100000
set_option linter.unusedVariables false
set_option autoImplicit false
namespace Mine

section
variable {c : Cx} {b : Blk} {d : Nat} {ρ : Rho}

/- a fresh list -/
structure EvalNew (c : Cx) (b : Blk) (d : Nat) (e : Expr) (ρ : Rho) (l : List PV) : Prop where
  run : ∀ (A : Around) (env : Env) (Mo : Mut) (s₀ : Shared) (K : List (Addr × Obj)) (M : Mut) (s : Shared) (Q : Value → Shared → Prop), Room d A → Fm c b env ρ Mo s₀ K M s →
    (∀ a us n s₁ s', Ex s s₁ → Ex s₁ s' → s₁.heap.get? a = none → s'.heap.get? a = some (listObj us n) → Rs c s₁.heap M l us → Q (.ref a) s') → W c A (eval e env) Q s
theorem new_list {es : List Expr} {pos : Pos} {ps : List PV} (h1 : Evals c b d es ρ ps) (hl : es.length ≤ 16777216) : EvalNew c b d (.List es pos) ρ ps :=
  .mk fun A env Mo s₀ K M s Q hR F h => List_ (h1.run A env Mo s₀ K M s pos _ hR F fun vs s' e r hvl => wpAny_newList (h _ vs 0 s' _ e (Ex.push s' _) (fresh_none s') (Heap.get?_push_size _ rfl) r) (by rw [hvl]; exact hl))
theorem new_meth {o : Expr} {name : Str} {apos pos : Pos} {es : List Expr} {id : String} {l : List Nat} {ps r : List PV} (slot : _root_.PySem.Slot "str" name id) (ty : typeOf (.builtin id) = pure (.type "method_descriptor"))
    (h0 : Eval c b d o ρ (.str l)) (h1 : Evals c b d es ρ ps) (op : OpNew c d (fun vs => call (.builtin id) vs) (.str l :: ps) r)
    (hbase : ∀ env, attributeBase o name env (eval o env) = eval o env) (hline : (apos.endLine == pos.line) = true) (hpl : plainArgs es = true) (hfew : es.length < 30) :
    EvalNew c b d (.Call (.Attribute o name apos) es [] pos) ρ r := .mk fun A env Mo s₀ K M s Q hR F h => by
  refine wpAny_Call_method_lateS (hbase env) ?_ hline (h0.run A env Mo s₀ K M s _ hR F fun v s' e hr => ?_)
  · exact few_args hpl hfew
  · cases hr with
    | str l t =>
      refine ⟨"str", id, PySem.F.plainAttrs_str, slot, ty, typeIs_str _ _ _, (fun _ e => nomatch e), ?_⟩
      exact callWith_ok (.inl ⟨id, rfl⟩) h1 hpl hR (F.ex e) fun vs s2 e2 hrs => op.run A M s2 (.str (txt l) t :: vs) Q hR (F.ex (e.trans e2)).toBase (.cons (.str l t) hrs) fun a us n s3 e3 hf hg hs => h a us n s2 s3 (e.trans e2) e3 hf hg hs
/- a list becomes the frame's own -/
theorem ex_own {x : Str} {px pos : Pos} {value : Expr} {l : List PV} (h1 : EvalNew c b d value ρ l) (hk : b.scope.names.lookup x = some .local)
    (hs : ∀ line env, swapsWith value (some (.Name x px)) line env = pure false) : Exec1 c b d (.Assign [.Name x px] value pos) ρ .next (rset ρ x (.own l)) :=
  .mk fun A env Mo s₀ K M s Q hR F h => wpAny_Assign_Name (h1.run A env Mo s₀ K M s _ hR F fun a us n s₁ s' e1 e2 hfr hg hr => by
    have F1 := F.ex e1
    have F2 : Fm c b env ρ Mo s₀ K (fun z => M z ∨ z = a) s' := F1.addM e2 hfr ⟨_, hg⟩
    have hmo : ¬ Mo a := F1.notMo hfr
    have hr2 : Rs c s'.heap (fun z => M z ∨ z = a) l us := hr.mono (fun z o _ g => e2.keep z o g) fun z o g hz => by
      rcases hz with hz | rfl
      · exact hz
      · rw [hfr] at g; cases g
    obtain ⟨m, hns, hsl, hdis⟩ := F2.ns
    refine wpAny_storeName_local (by rw [F2.kindOf, hk]) hns (fun h' hn hsb => ?_) (by rw [F2.kd]; rfl)
    have hL := F2.lM
    obtain ⟨oL, _, _, h'live, _⟩ := id hn
    have hne : a ≠ env.locals := (ns_ne_list hns hg).symm
    have hg' : h'.get? a = some (listObj us n) := (hsb.2 a hne).trans hg
    have hfr' : ∀ y l', ρ.lookup y = some (.own l') → m y ≠ some (.ref a) := fun y l' hy hm => by
      obtain ⟨m1, hns1, hsl1, _⟩ := F1.ns
      have em : m1 y = m y := (hns1.keeps e2.keep).agree hns y
      have := hsl1 y (F1.ownl y l' hy)
      rw [hy] at this
      obtain ⟨z, vs, k, e, _, _, g, _⟩ := this
      rw [em, hm] at e; cases e
      rw [hfr] at g; cases g
    refine h _ _ _ (?_ : Fm c b env (rset ρ x (.own l)) Mo s₀ K (fun z => M z ∨ z = a) { s' with heap := h', toks := s'.toks + 1 }) (fun q u r => ?_) rfl
    · exact {
        scope := F2.scope, kind := F2.kind, glob := F2.glob, blt := F2.blt
        base := F2.baseSame hL F2.lMo hsb (Nat.le_succ _)
        h1 := F2.h1Same hL hsb
        h1M := F2.h1M
        tok := Nat.le_trans F2.tok (Nat.le_succ _)
        mo := F2.mo
        mlt := F2.liveSame hsb ⟨_, h'live⟩
        molt := F2.molt, mfresh := F2.mfresh, lM := F2.lM, lMo := F2.lMo
        ns := by
          refine ⟨_, hn, fun y hy => ?_, fun y z a' l₁ l₂ hyz h1 h2 h3 h4 => ?_⟩
          · rw [rset_lookup]
            by_cases e : y = x
            · subst e; simp only [if_true]; exact ⟨a, us, n, rfl, .inr rfl, hmo, hg', hr2.off hL hsb⟩
            · simp only [e, if_false]; exact (hsl y hy).off hL hsb fun l z vs n _ _ g => (ns_ne_list hns g).symm
          · rw [rset_lookup] at h1 h2
            by_cases e1 : y = x
            · by_cases e2 : z = x
              · exact hyz (e1.trans e2.symm)
              · simp only [e1, e2, if_true, if_false] at h1 h2 h3 h4
                cases h3
                exact hfr' z l₂ h2 h4
            · by_cases e2 : z = x
              · simp only [e1, e2, if_true, if_false] at h1 h2 h3 h4
                cases h4
                exact hfr' y l₁ h1 h3
              · simp only [e1, e2, if_false] at h1 h2 h3 h4; exact hdis y z a' l₁ l₂ hyz h1 h2 h3 h4
        ownl := fun y l₁ hy => by
          rw [rset_lookup] at hy
          by_cases e1 : y = x
          · rw [e1]; exact hk
          · simp only [e1, if_false] at hy; exact F2.ownl y l₁ hy
        cells := fun y hy => by
          obtain ⟨a', ov, h1, h2, h3, h4⟩ := F2.cells y hy
          refine ⟨a', ov, h1, h2, h3.sameBut hsb (ns_ne_cell hns h3).symm, ?_⟩
          rw [rset_lookup]
          by_cases e : y = x
          · subst e; rw [hk] at hy; rcases hy with hy | hy <;> cases hy
          · simp only [e, if_false]; exact h4.off hL hsb fun l z vs n _ _ g => (ns_ne_list hns g).symm
        cdist := F2.cdist, cmo := F2.cmo
        prot := fun p hp => (by obtain ⟨h1, h2, h3⟩ := F2.prot p hp; exact ⟨(hsb.2 _ (ns_ne_held h3).symm).trans h1, h2, h3⟩) }
    · exact (((r.ex e1).addM e2.keep hfr)).off hL hsb) (hs _ _)

/- an own list has changed -/
theorem Fm.ownMut {env : Env} {Mo M : Mut} {K : List (Addr × Obj)} {s₀ s : Shared} {x : Str} {l l' : List PV} {a : Addr} {us us' : List Value} {n n' : Nat} {h' : Heap} {m : Str → Option Value} (F : Fm c b env ρ Mo s₀ K M s) (hx : ρ.lookup x = some (.own l))
    (hm : s.heap.Ns env.locals m) (ha : m x = some (.ref a)) (hM : M a) (hMo : ¬ Mo a) (hg : s.heap.get? a = some (listObj us n)) (hsb : Heap.SameBut a s.heap h') (hg' : h'.get? a = some (listObj us' n')) (hr : Rs c s.heap M l' us') :
    Fm c b env (rset ρ x (.own l')) Mo s₀ K M { s with heap := h' } := by
  obtain ⟨m', hns, hsl, hdis⟩ := F.ns
  have em : ∀ y, m y = m' y := fun y => hm.agree hns y
  have hk := F.ownl x l hx
  have e1 : ({ s with heap := h' } : Shared) = { s with heap := h', toks := s.toks } := rfl
  rw [e1]
  exact {
    scope := F.scope, kind := F.kind, glob := F.glob, blt := F.blt
    base := F.baseSame hM hMo hsb (Nat.le_refl _)
    h1 := F.h1Same hM hsb
    h1M := F.h1M
    tok := F.tok
    mo := F.mo
    mlt := F.liveSame hsb ⟨_, hg'⟩
    molt := F.molt, mfresh := F.mfresh, lM := F.lM, lMo := F.lMo
    ns := by
      refine ⟨m', hns.sameBut hsb (ns_ne_list hns hg), fun y hy => ?_, fun y z a' l₁ l₂ hyz h1 h2 h3 h4 => ?_⟩
      · rw [rset_lookup]
        by_cases e : y = x
        · subst e; simp only [if_true]; exact ⟨a, us', n', by rw [← em]; exact ha, hM, hMo, hg', hr.off hM hsb⟩
        · simp only [e, if_false]
          refine (hsl y hy).off hM hsb fun l₂ z vs k q1 q2 g => ?_
          rintro rfl
          exact hdis y x z l₂ l e q1 hx q2 (by rw [← em]; exact ha)
      · rw [rset_lookup] at h1 h2
        have h1' : ∃ l, ρ.lookup y = some (.own l) := by
          by_cases e1 : y = x
          · exact ⟨l, e1 ▸ hx⟩
          · simp only [e1, if_false] at h1; exact ⟨_, h1⟩
        have h2' : ∃ l, ρ.lookup z = some (.own l) := by
          by_cases e1 : z = x
          · exact ⟨l, e1 ▸ hx⟩
          · simp only [e1, if_false] at h2; exact ⟨_, h2⟩
        obtain ⟨la, q1⟩ := h1'
        obtain ⟨lb, q2⟩ := h2'
        exact hdis y z a' la lb hyz q1 q2 h3 h4
    ownl := fun y l₁ hy => by
      rw [rset_lookup] at hy
      by_cases e1 : y = x
      · rw [e1]; exact hk
      · simp only [e1, if_false] at hy; exact F.ownl y l₁ hy
    cells := fun y hy => by
      obtain ⟨a', ov, h1, h2, h3, h4⟩ := F.cells y hy
      refine ⟨a', ov, h1, h2, h3.sameBut hsb (cell_ne_list h3 hg), ?_⟩
      rw [rset_lookup]
      by_cases e : y = x
      · subst e; rw [hk] at hy; rcases hy with hy | hy <;> cases hy
      · simp only [e, if_false]
        refine h4.off hM hsb fun l₂ z vs k q1 q2 g => ?_
        have := F.ownl y l₂ q1; rw [this] at hy; rcases hy with hy | hy <;> cases hy
    cdist := F.cdist, cmo := F.cmo
    prot := fun p hp => (by obtain ⟨h1, h2, h3⟩ := F.prot p hp; exact ⟨(hsb.2 _ (list_ne_held hg h1 h3).symm).trans h1, h2, h3⟩) }

/- the own list's place -/
theorem Fm.ownAt {env : Env} {Mo M : Mut} {K : List (Addr × Obj)} {s₀ s : Shared} {x : Str} {l : List PV} (F : Fm c b env ρ Mo s₀ K M s) (hx : ρ.lookup x = some (.own l)) :
    ∃ m a us n, s.heap.Ns env.locals m ∧ m x = some (.ref a) ∧ M a ∧ ¬ Mo a ∧ s.heap.get? a = some (listObj us n) ∧ Rs c s.heap M l us := by
  obtain ⟨m, hns, hsl, hdis⟩ := F.ns
  have := hsl x (F.ownl x l hx)
  rw [hx] at this
  obtain ⟨a, us, n, e, h1, h2, h3, h4⟩ := this
  exact ⟨m, a, us, n, hns, e, h1, h2, h3, h4⟩

/- no more to be changed -/
theorem Fm.freeze {env : Env} {Mo M : Mut} {K : List (Addr × Obj)} {s₀ s : Shared} {x : Str} {l : List PV} (F : Fm c b env ρ Mo s₀ K M s) (hx : ρ.lookup x = some (.own l)) :
    ∃ M', Fm c b env (rset ρ x (.val (.list l))) Mo s₀ K M' s ∧ Pres c M s M' s ∧ (∀ z, M' z → M z) := by
  obtain ⟨m, hns, hsl, hdis⟩ := F.ns
  have hk := F.ownl x l hx
  have hsx := hsl x hk
  rw [hx] at hsx
  obtain ⟨a, us, n, e, hM, hMo, hg, hr⟩ := hsx
  have sub : ∀ z o, s.heap.get? z = some o → (M z ∧ z ≠ a) → M z := fun _ _ _ h => h.1
  have slot : ∀ y ov, y ≠ x → (∀ l', ρ.lookup y = some (.own l') → ov ≠ some (.ref a)) → Slot c s.heap Mo M (ρ.lookup y) ov → Slot c s.heap Mo (fun z => M z ∧ z ≠ a) (ρ.lookup y) ov := fun y ov _ hne h =>
    h.mono (fun z o _ g => g) sub fun l' z o q1 q2 m mo g => ⟨⟨m, fun q => hne l' q1 (q ▸ q2)⟩, g⟩
  refine ⟨fun z => M z ∧ z ≠ a, ?_, fun q u r => r.mono (fun z o _ g => g) sub, fun z h => h.1⟩
  exact {
    scope := F.scope, kind := F.kind, glob := F.glob, blt := F.blt, base := F.base, h1 := F.h1
    h1M := fun z h => F.h1M z h.1
    tok := F.tok
    mo := fun z h => ⟨F.mo z h, fun q => hMo (q ▸ h)⟩
    mlt := fun z h => F.mlt z h.1
    molt := F.molt
    mfresh := fun z h => F.mfresh z h.1
    lM := ⟨F.lM, ns_ne_list hns hg⟩
    lMo := F.lMo
    ns := by
      refine ⟨m, hns, fun y hy => ?_, fun y z a' l₁ l₂ hyz h1 h2 h3 h4 => ?_⟩
      · rw [rset_lookup]
        by_cases q : y = x
        · subst q; simp only [if_true]
          exact ⟨.ref a, e, .list (fun h => h.2 rfl) hg (hr.mono (fun z o _ g => g) sub)⟩
        · simp only [q, if_false]
          exact slot y _ q (fun l' q1 q2 => hdis y x a l' l q q1 hx q2 e) (hsl y hy)
      · rw [rset_lookup] at h1 h2
        by_cases q1 : y = x
        · simp [q1] at h1
        · by_cases q2 : z = x
          · simp [q2] at h2
          · simp only [q1, q2, if_false] at h1 h2; exact hdis y z a' l₁ l₂ hyz h1 h2 h3 h4
    ownl := fun y l₁ hy => by
      rw [rset_lookup] at hy
      by_cases q1 : y = x
      · simp [q1] at hy
      · simp only [q1, if_false] at hy; exact F.ownl y l₁ hy
    cells := fun y hy => by
      obtain ⟨a', ov, h1, h2, h3, h4⟩ := F.cells y hy
      refine ⟨a', ov, h1, ⟨h2, cell_ne_list h3 hg⟩, h3, ?_⟩
      rw [rset_lookup]
      by_cases q : y = x
      · subst q; rw [hk] at hy; rcases hy with hy | hy <;> cases hy
      · simp only [q, if_false]
        exact slot y _ q (fun l' q1 => by have := F.ownl y l' q1; rw [this] at hy; rcases hy with hy | hy <;> cases hy) h4
    cdist := F.cdist, cmo := F.cmo
    prot := fun p hp => (by obtain ⟨h1, h2, h3⟩ := F.prot p hp; exact ⟨h1, ⟨h2, (list_ne_held hg h1 h3).symm⟩, h3⟩) }
theorem exec_freeze {ss : List Stmt} {x : Str} {l : List PV} {f : Fl} {ρ' : Rho} (hx : ρ.lookup x = some (.own l)) (h : Exec c b d ss (rset ρ x (.val (.list l))) f ρ') : Exec c b d ss ρ f ρ' :=
  .mk fun A env Mo s₀ K M s Q hR F k => by
    obtain ⟨M', F', hp, _⟩ := F.freeze hx
    exact h.run A env Mo s₀ K M' s Q hR F' fun fl s' M'' F'' hp' hf => k fl s' M'' F'' (hp.trans hp') hf
/- reading an own list: what comes has no place -/
noncomputable def flat : PV → Bool
  | .none => true
  | .bool _ => true
  | .int _ => true
  | .str _ => true
  | _ => false
theorem R.flat {h : Heap} {M M' : Mut} {p : PV} {v : Value} (hp : flat p = true) (r : R c h M p v) : R c h M' p v := by
  cases r <;> first | exact .none | exact .bool _ | exact .int _ _ | exact .str _ _ | cases hp
theorem ev_own {e : Expr} {x : Str} {l : List PV} {p : PV} (hx : ρ.lookup x = some (.own l)) (h : Eval c b d e (rset ρ x (.val (.list l))) p) (hp : flat p = true) : Eval c b d e ρ p :=
  .mk fun A env Mo s₀ K M s Q hR F k => by
    obtain ⟨M', F', _, _⟩ := F.freeze hx
    exact h.run A env Mo s₀ K M' s Q hR F' fun v s' e r => k v s' e (r.flat hp)
theorem test_own {e : Expr} {x : Str} {l : List PV} {t : Bool} (hx : ρ.lookup x = some (.own l)) (h : Test c b d e (rset ρ x (.val (.list l))) t) : Test c b d e ρ t :=
  .mk fun A env Mo s₀ K M s Q hR F k => by
    obtain ⟨M', F', _, _⟩ := F.freeze hx
    exact h.run A env Mo s₀ K M' s Q hR F' k
end
end Mine
end

section
open PySem PySem.W PyProof.Rows
open PySem.Builtin PySem.Builtin.Str
set_option Elab.async false
set_option maxRecDepth 100000
set_option linter.unusedVariables false
set_option autoImplicit false
namespace Mine

section
variable {c : Cx} {b : Blk} {d : Nat} {ρ : Rho}

theorem Rs.eraseIdx {h : Heap} {M : Mut} {l : List PV} {vs : List Value} (i : Nat) (x : Rs c h M l vs) : Rs c h M (l.eraseIdx i) (vs.eraseIdx i) :=
  x.ind (P := fun l vs => ∀ i, Rs c h M (l.eraseIdx i) (vs.eraseIdx i)) (fun _ => .nil) (fun h1 h2 ih i => by
    cases i with
    | zero => exact h2
    | succ i => exact .cons h1 (ih i)) i
theorem mapSeq_list (f : Array Value → Array Value) (vs : List Value) (n : Nat) : ∃ n', Obj.mapSeq f (listObj vs n) = listObj (f vs.toArray).toList n' := by
  unfold Obj.mapSeq listObj
  exact ⟨_, rfl⟩
theorem update_list {s : Shared} {a : Addr} {vs : List Value} {n : Nat} (hg : s.heap.get? a = some (listObj vs n)) (f : Array Value → Array Value) : ∃ n', (s.heap.update a (Obj.mapSeq f)).get? a = some (listObj (f vs.toArray).toList n') := by
  obtain ⟨n', e⟩ := mapSeq_list f vs n
  refine ⟨n', ?_⟩
  have := Heap.get?_update_self (Obj.mapSeq f) hg (by rw [e]; rfl)
  rw [this, e]

theorem Fm.loadO {A : Around} {env : Env} {Mo M : Mut} {K : List (Addr × Obj)} {s₀ s : Shared} {x : Str} {l : List PV} {Q : Value → Shared → Prop} (F : Fm c b env ρ Mo s₀ K M s) (hx : ρ.lookup x = some (.own l)) {m : Str → Option Value} {v : Value}
    (hns : s.heap.Ns env.locals m) (hm : m x = some v) (h : Q v s) : W c A (loadName env x) Q s :=
  wpAny_loadName_local F.kd (by rw [F.kindOf, F.ownl x l hx]) hns hm h

theorem ex_append {x : Str} {px apos cpos pos : Pos} {e : Expr} {l : List PV} {p : PV} (hx : ρ.lookup x = some (.own l)) (h1 : Eval c b d e ρ p) (hd : (x == ("__debug__" : Str)) = false) (hl : l.length ≤ 16777216) (hst : isStar e = false)
    (hline : (apos.endLine == cpos.line) = true) : Exec1 c b d (.Expr (.Call (.Attribute (.Name x px) "append" apos) [e] [] cpos) pos) ρ .next (rset ρ x (.own (l ++ [p]))) :=
  .mk fun A env Mo s₀ K M s Q hR F h => by
    refine wpAny_Expr_any (wpAny_Call_append rfl ?_ hline ?_ ?_) (by unfold interactive; rw [F.kd]; rfl) rfl
    · rw [starEach_cons hst]; rfl
    · rw [starEach_cons hst]; rfl
    · obtain ⟨m, a, us, n, hns, hm, hM, hMo, hg, hr⟩ := F.ownAt hx
      refine wpAny_Name (F.loadO hx hns hm ⟨a, us.toArray, rfl, ⟨_, n, hg, rfl, rfl, rfl⟩, ?_⟩) hd
      refine h1.run A env Mo s₀ K M s _ hR F fun v s' ex rv => ?_
      have F' := F.ex ex
      obtain ⟨m', a', us', n', hns', hm', hM', hMo', hg', hr'⟩ := F'.ownAt hx
      have : a' = a := by
        have := (hns.keeps ex.keep).agree hns' x
        rw [hm, hm'] at this; cases this; rfl
      subst this
      refine wpAny_call_entry slot_list_append ⟨_, hg', rfl⟩ entry_list_append ?_ (args_list_append _ _)
      show W c A.in1 (updateSeq a' (·.push v) >>= fun _ => ret .none) _ s'
      refine wpAny_bind (wpAny_updateSeq hg' rfl (wpAny_pure ⟨.none, rfl, ?_⟩) (by show us'.length ≤ 16777216; rw [hr'.length]; exact hl) (by simp [sizeLine]; rw [hr'.length]; lia))
      obtain ⟨k, hk⟩ := update_list hg' (·.push v)
      refine h _ _ _ (F'.ownMut (us' := us' ++ [v]) (n' := k) hx hns' hm' hM' hMo' hg' (Heap.SameBut.update ..) (by rw [hk]; simp) (hr'.append (.cons rv .nil))) (fun q u r => (r.ex ex).off hM' (Heap.SameBut.update ..)) rfl
theorem ex_del {x : Str} {px spos pos : Pos} {i : Expr} {l : List PV} {k : Int} {j : Nat} (hx : ρ.lookup x = some (.own l)) (h1 : Eval c b d i ρ (.int k)) (hd : (x == ("__debug__" : Str)) = false) (hl : l.length ≤ 16777216)
    (hj : seqIndex? k l.length = some j) (hlo : -(2 ^ 63) ≤ k) (hhi : k < 2 ^ 63) : Exec1 c b d (.Delete [.Subscript (.Name x px) i spos] pos) ρ .next (rset ρ x (.own (l.eraseIdx j))) :=
  .mk fun A env Mo s₀ K M s Q hR F h => by
    show W c A (do standAt pos; deleteEach [.Subscript (.Name x px) i spos] env; pure .next) Q s
    refine wpAny_bind (wpAny_standAt (wpAny_bind ?_))
    show W c A (do (do
        let ov ← eval (.Name x px) env
        let iv ← holding [ov] (eval i env)
        standAt spos
        holding [ov, iv] (delItem ov iv)
        release [ov, iv] []); deleteEach [] env) _ s
    obtain ⟨m, a, us, n, hns, hm, hM, hMo, hg, hr⟩ := F.ownAt hx
    refine wpAny_bind (wpAny_bind (wpAny_Name (F.loadO hx hns hm ?_) hd))
    refine wpAny_bind (wpAny_holding (h1.run A env Mo s₀ K M s _ hR F fun v s' ex rv => ?_))
    cases rv with
    | int k t =>
      have F' := F.ex ex
      obtain ⟨m', a', us', n', hns', hm', hM', hMo', hg', hr'⟩ := F'.ownAt hx
      have : a' = a := by
        have := (hns.keeps ex.keep).agree hns' x
        rw [hm, hm'] at this; cases this; rfl
      subst this
      refine wpAny_bind (wpAny_standAt (wpAny_bind (wpAny_holding ?_)))
      refine P.delItem_list hg' (k := j) (by unfold Builtin.List.listFitsIndex; simp; lia) (by simpa [hr'.length] using hj) ?_ (by show us'.length ≤ 16777216; rw [hr'.length]; exact hl)
      obtain ⟨k', hk⟩ := update_list hg' (fun xs => xs.eraseIdxIfInBounds j)
      refine wpAny_release (wpAny_pure (wpAny_pure ?_))
      refine h _ _ _ (F'.ownMut (us' := us'.eraseIdx j) (n' := k') hx hns' hm' hM' hMo' hg' (Heap.SameBut.update ..) (by rw [hk]; simp) ?_) (fun q u r => (r.ex ex).off hM' (Heap.SameBut.update ..)) rfl
      exact hr'.eraseIdx j
theorem ex_setitem {x : Str} {px spos pos : Pos} {i value : Expr} {l : List PV} {k : Int} {p : PV} (hx : ρ.lookup x = some (.own l)) (h0 : Eval c b d value ρ p) (h1 : Eval c b d i ρ (.int k)) (hd : (x == ("__debug__" : Str)) = false)
    (hk0 : 0 ≤ k) (hk : k < l.length) (hhi : k < 2 ^ 63) (hs : ∀ line env, swapsWith value (some (.Subscript (.Name x px) i spos)) line env = pure false) :
    Exec1 c b d (.Assign [.Subscript (.Name x px) i spos] value pos) ρ .next (rset ρ x (.own (l.set k.toNat p))) :=
  .mk fun A env Mo s₀ K M s Q hR F h => by
    refine wpAny_Assign_Subscript (h0.run A env Mo s₀ K M s _ hR F fun v s1 e1 r1 => ?_) (hs _ _)
    have F1 := F.ex e1
    obtain ⟨m, a, us, n, hns, hm, hM, hMo, hg, hr⟩ := F1.ownAt hx
    refine wpAny_Name (F1.loadO hx hns hm ?_) hd
    refine h1.run A env Mo s₀ K M s1 _ hR F1 fun u s2 e2 r2 => ?_
    cases r2 with
    | int k t =>
      have F2 := F1.ex e2
      obtain ⟨m', a', us', n', hns', hm', hM', hMo', hg', hr'⟩ := F2.ownAt hx
      have : a' = a := by
        have := (hns.keeps e2.keep).agree hns' x
        rw [hm, hm'] at this; cases this; rfl
      subst this
      have hT : s2.TypeIs (.ref a') "list" := ⟨_, hg', rfl⟩
      unfold setItem
      refine wpAny_holding ?_
      refine wpAny_bind (wpAny_sequenceKey hT (by decide) ?_)
      refine wpAny_bind (wpAny_callSpecial?_slot (name := Str.ofString "__setitem__") hT slot_list_setitem
        (wpAny_call_entry slot_list_setitem hT entry_list_setitem ?_ (args_list_setitem _ _ _)))
      show W c A.in1 (Builtin.List.listSubscript? (.int k t) >>= _) _ s2
      refine wpAny_bind (wpAny_listSubscript_int (by unfold Builtin.List.listFitsIndex; simp; lia) ?_)
      obtain ⟨j, rfl⟩ := Int.eq_ofNat_of_zero_le hk0
      have hj : j < us'.length := by rw [hr'.length]; lia
      show W c A.in1 ((seqItemAt a' j >>= fun r => pure (r.map (j, ·))) >>= _) _ s2
      refine wpAny_bind (wpAny_bind (wpAny_seqItemAt hg' rfl (wpAny_pure ?_)))
      have hx' : (us'.toArray)[j]? = some us'[j] := by simp [hj]
      rw [hx']
      show W c A.in1 (setSeqItemAt a' j v >>= _) _ s2
      refine wpAny_bind (wpAny_setSeqItemAt hg' rfl (wpAny_pure ⟨.none, rfl, wpAny_pure ?_⟩))
      obtain ⟨k', hk'⟩ := update_list hg' (·.setIfInBounds j v)
      refine h _ _ _ (F2.ownMut (us' := us'.set j v) (n' := k') hx hns' hm' hM' hMo' hg' (Heap.SameBut.update ..) (by rw [hk']; simp) (Rs.set (r1.ex e2) j hr')) (fun q u r => ((r.ex e1).ex e2).off hM' (Heap.SameBut.update ..)) rfl

-- the value as the data of the library
mutual
noncomputable def pd : PV → PyData
  | .none => .none
  | .bool b => .bool b
  | .int i => .int i
  | .str l => .str (txt l)
  | .list l => .list (pds l)
  | .tup l => .tuple (pds l)
  | .obj _ _ => .dict []
  | .rng _ _ => .dict []
  | .raw _ _ => .dict []
noncomputable def pds : List PV → List PyData
  | [] => []
  | p :: r => pd p :: pds r
end
theorem reads_of {h : Heap} {M : Mut} {p : PV} {v : Value} (x : R c h M p v) : (pd p).canLay0 = true → ∃ as, Reads h v (pd p) as :=
  R.rec (motive_1 := fun p v _ => (pd p).canLay0 = true → ∃ as, Reads h v (pd p) as) (motive_2 := fun l vs _ => PyData.canLayAll0 (pds l) = true → ∃ as, ReadsAll h vs (pds l) as)
    (fun _ => ⟨_, .none⟩) (fun b _ => ⟨_, .bool b⟩) (fun i t _ => ⟨_, .int i t⟩) (fun l t _ => ⟨_, .str _ t⟩)
    (fun _ hg _ ih hc => let ⟨_, ha⟩ := ih hc; ⟨_, .list hg rfl rfl ha⟩) (fun _ hg _ ih hc => let ⟨_, ha⟩ := ih hc; ⟨_, .tuple hg rfl rfl ha⟩)
    (fun _ _ _ _ _ _ _ _ _ _ _ hc => nomatch (show false = true from hc)) (fun _ _ hc => nomatch (show false = true from hc)) (fun _ _ hc => nomatch (show false = true from hc))
    (fun _ => ⟨_, .nil⟩) (fun _ _ ih1 ih2 hc => by
      have hc : (PyData.canLay0 _ && PyData.canLayAll0 _) = true := hc
      rw [Bool.and_eq_true] at hc
      obtain ⟨as, ha⟩ := ih1 hc.1
      obtain ⟨bs, hb⟩ := ih2 hc.2
      exact ⟨_, .cons ha hb⟩) x
noncomputable def dataOk (p : PV) : Bool := SeqAt.shaped (pd p)
noncomputable def peq (p q : PV) : Bool := PyData.eqv (pd p) (pd q)
theorem op_eq (p q : PV) (hp : dataOk p = true) (hq : dataOk q = true) : Op2 c (compareOp .Eq) p q (.bool (peq p q)) := .mk fun A M s v u Q hR B r1 r2 h => by
  obtain ⟨as, ha⟩ := reads_of r1 (SeqAt.canLay_of_shaped hp)
  obtain ⟨bs, hb⟩ := reads_of r2 (SeqAt.canLay_of_shaped hq)
  exact eq_dataH ha hb hp hq (by have := hR.units; lia) (h _ _ (Ex.refl s) (.bool _))
theorem op_ne (p q : PV) (hp : dataOk p = true) (hq : dataOk q = true) : Op2 c (compareOp .NotEq) p q (.bool (!peq p q)) := .mk fun A M s v u Q hR B r1 r2 h => by
  obtain ⟨as, ha⟩ := reads_of r1 (SeqAt.canLay_of_shaped hp)
  obtain ⟨bs, hb⟩ := reads_of r2 (SeqAt.canLay_of_shaped hq)
  exact ne_dataH ha hb hp hq (by have := hR.units; lia) (h _ _ (Ex.refl s) (.bool _))
end
end Mine
end

section
open PySem PySem.W PyProof.Rows
open PySem.Builtin PySem.Builtin.Str
set_option Elab.async false
set_option maxRecDepth 100000
set_option linter.unusedVariables false
set_option autoImplicit false
namespace Mine

noncomputable def noOwn (ρ : Rho) : Bool := ρ.all fun p => match p.2 with | .val _ => true | .own _ => false
theorem noOwn_lookup {ρ : Rho} (h : noOwn ρ = true) (x : Str) (l : List PV) : ρ.lookup x ≠ some (.own l) := fun e => by
  have := (List.all_eq_true.mp h) _ (mem_of_lookup e)
  cases this

section
variable {c : Cx} {b : Blk} {d : Nat} {ρ : Rho}

/- a list that no name bears has changed -/
theorem Fm.listMut {env : Env} {Mo M : Mut} {K : List (Addr × Obj)} {s₀ s : Shared} {a : Addr} {us : List Value} {n : Nat} {h' : Heap} (F : Fm c b env ρ Mo s₀ K M s) (hno : ∀ x l, ρ.lookup x ≠ some (.own l))
    (hM : M a) (hMo : ¬ Mo a) (hg : s.heap.get? a = some (listObj us n)) (hsb : Heap.SameBut a s.heap h') (hl : ∃ o, h'.get? a = some o) : Fm c b env ρ Mo s₀ K M { s with heap := h' } := by
  obtain ⟨m, hns, hsl, hdis⟩ := F.ns
  have slot : ∀ x ov, Slot c s.heap Mo M (ρ.lookup x) ov → Slot c h' Mo M (ρ.lookup x) ov := fun x ov h => h.off hM hsb fun l z vs n e _ _ => absurd e (hno x l)
  exact {
    scope := F.scope, kind := F.kind, glob := F.glob, blt := F.blt
    base := F.baseSame hM hMo hsb (Nat.le_refl _)
    h1 := F.h1Same hM hsb
    h1M := F.h1M, tok := F.tok, mo := F.mo
    mlt := F.liveSame hsb hl
    molt := F.molt, mfresh := F.mfresh, lM := F.lM, lMo := F.lMo
    ns := ⟨m, hns.sameBut hsb (ns_ne_list hns hg), fun x hx => slot _ _ (hsl x hx), hdis⟩
    ownl := F.ownl
    cells := fun y hy => (by obtain ⟨a', ov, h1, h2, h3, h4⟩ := F.cells y hy; exact ⟨a', ov, h1, h2, h3.sameBut hsb (cell_ne_list h3 hg), slot _ _ h4⟩)
    cdist := F.cdist, cmo := F.cmo
    prot := fun p hp => (by obtain ⟨h1, h2, h3⟩ := F.prot p hp; exact ⟨(hsb.2 _ (list_ne_held hg h1 h3).symm).trans h1, h2, h3⟩) }

theorem Pres.rs {M M' : Mut} {s s' : Shared} (hp : Pres c M s M' s') {l : List PV} {vs : List Value} (x : Rs c s.heap M l vs) : Rs c s'.heap M' l vs := x.ind .nil fun h1 _ ih => .cons (hp _ _ h1) ih
/- the list that a comprehension fills -/
structure Acc (c : Cx) (acc : Addr) (l : List PV) (Mo M : Mut) (s : Shared) : Prop where
  m : M acc
  mo : ¬ Mo acc
  at' : ∃ vs n, s.heap.get? acc = some (listObj vs n) ∧ Rs c s.heap M l vs

theorem Acc.step {acc : Addr} {l : List PV} {Mo M M' : Mut} {s s' : Shared} (a : Acc c acc l Mo M s) (hM : M' acc) (hp : Pres c M s M' s') (hk : ∀ o, s.heap.get? acc = some o → s'.heap.get? acc = some o) : Acc c acc l Mo M' s' := by
  obtain ⟨vs, n, g, r⟩ := a.at'
  exact ⟨hM, a.mo, vs, n, hk _ g, hp.rs r⟩

structure Tests (c : Cx) (b : Blk) (d : Nat) (ifs : List Expr) (ρ : Rho) (r t : Bool) : Prop where
  run : ∀ (A : Around) (env : Env) (Mo : Mut) (s₀ : Shared) (K : List (Addr × Obj)) (M : Mut) (s : Shared) (Q : Bool → Shared → Prop), Room d A → Fm c b env ρ Mo s₀ K M s →
    (∀ s', Ex s s' → Q t s') → W c A (forIn ifs r fun c r => if r = true then do let ok ← isTrue c env (eval c env); pure (ForInStep.yield ok) else pure (ForInStep.yield r)) Q s
theorem tests_nil {r : Bool} : Tests c b d [] ρ r r := .mk fun A env Mo s₀ K M s Q hR F h => by rw [List.forIn_nil]; exact wpAny_pure (h s (Ex.refl s))
theorem tests_cons {e : Expr} {es : List Expr} {t t' : Bool} (h1 : Test c b d e ρ t) (h2 : Tests c b d es ρ t t') : Tests c b d (e :: es) ρ true t' := .mk fun A env Mo s₀ K M s Q hR F h => by
  rw [List.forIn_cons]
  refine wpAny_bind ?_
  rw [if_pos rfl]
  exact wpAny_bind (h1.run A env Mo s₀ K M s _ hR F fun s' e => wpAny_pure (h2.run A env Mo s₀ K M s' Q hR (F.ex e) fun s'' e' => h s'' (e.trans e')))
/- one turn of a list comprehension's loop -/
theorem comp_turn {A : Around} {env : Env} {elt : Expr} {gens : List Comprehension} {scope : Scope} {pos : Pos} {k : Nat} {target iter : Expr} {ifs : List Expr} {it acc : Value} {s : Shared} {Rk : Result → Shared → Prop}
    (hg : gens[k]? = some ⟨target, iter, ifs, 0⟩) (hn : ∀ g', gens[k + 1]? = some g' → g'.is_async = 0 ∧ ∀ x, foldedSetIterable g'.iter env x = pure x)
    (h : W c A (pyNext it) (fun r s₁ => match r with
      | none => Rk (.ok .next) s₁
      | some v => W c A (letOwnedTupleGo target it v) (fun _ s₂ => W c A (assign target env v) (fun _ s₃ =>
        W c A (forIn ifs true fun c r => if r = true then do let ok ← isTrue c env (eval c env); pure (ForInStep.yield ok) else pure (ForInStep.yield r)) (fun ok s₄ =>
          if ok = true then (match gens[k + 1]? with
            | some g' => W c A (eval g'.iter env) (fun x s₅ => W c A (pyIter x) (fun it' s₆ => codeAny (model c.prog c.w) A (.compStart (.ListComp elt gens scope pos) (k + 1) it' acc env) (fun r s₇ => match r with
              | .ok _ => codeAny (model c.prog c.w) A (.compLoop (.ListComp elt gens scope pos) k it acc env) Rk s₇
              | .error _ => False) s₆) s₅) s₄
            | none => W c A (eval elt env) (fun x s₅ => W c A (call (.builtin "list.append") [acc, x]) (fun _ s₆ => codeAny (model c.prog c.w) A (.compLoop (.ListComp elt gens scope pos) k it acc env) Rk s₆) s₅) s₄)
          else codeAny (model c.prog c.w) A (.compLoop (.ListComp elt gens scope pos) k it acc env) Rk s₄) s₃) s₂) s₁) s) :
    codeAny (model c.prog c.w) A (.compLoop (.ListComp elt gens scope pos) k it acc env) Rk s := by
  refine codeAny_of_tree ?_
  show wpAny _ A ((compTurn (.ListComp elt gens scope pos) k it acc env).onRaise (fun x => do noteFrame x env; theTreesLotGoes x)) _ _ s
  refine wpAny_onRaise (wpAny_mono (?_ : W c A (compTurn (.ListComp elt gens scope pos) k it acc env) _ s) (fun _ _ q => q) fun _ _ q => q.elim)
  unfold compTurn
  simp only [hg]
  have e0 : ((0 : Int) != 0) = false := rfl
  simp only [e0, Bool.false_eq_true, if_false]
  refine wpAny_bind (wpAny_standAt (wpAny_bind (wpAny_mono h (fun r s₁ h₁ => ?_) fun _ _ q => q)))
  cases r with
  | none => exact wpAny_pure h₁
  | some v =>
    refine wpAny_bind (wpAny_mono h₁ (fun _ s₂ h₂ => wpAny_bind (wpAny_mono h₂ (fun _ s₃ h₃ => wpAny_bind (wpAny_mono h₃ (fun ok s₄ h₄ => ?_) fun _ _ q => q)) fun _ _ q => q)) fun _ _ q => q)
    cases ok with
    | false => exact wpAny_pure ⟨rfl, h₄⟩
    | true =>
      simp only [if_true] at h₄ ⊢
      cases hg' : gens[k + 1]? with
      | none =>
        rw [hg'] at h₄
        exact wpAny_bind (wpAny_bind (wpAny_mono h₄ (fun x s₅ h₅ => wpAny_bind (wpAny_mono h₅ (fun _ s₆ h₆ => wpAny_pure (wpAny_pure ⟨rfl, h₆⟩)) fun _ _ q => q)) fun _ _ q => q))
      | some g' =>
        rw [hg'] at h₄
        obtain ⟨ha, hf⟩ := hn g' hg'
        simp only [ha, e0, Bool.false_eq_true, if_false]
        refine wpAny_bind (wpAny_mono h₄ (fun x s₅ h₅ => wpAny_bind (wpAny_standAt (wpAny_bind (wpAny_of_eq (hf x) (wpAny_bind (wpAny_holding (wpAny_mono h₅ (fun it' s₆ h₆ => ?_) fun _ _ q => q))))))) fun _ _ q => q)
        refine wpAny_bind (wpAny_runOwn (codeAny_mono h₆ fun r s₇ h₇ => ?_))
        cases r with
        | ok f => exact wpAny_pure ⟨rfl, h₇⟩
        | error e => exact h₇.elim

theorem comp_start {A : Around} {env : Env} {elt : Expr} {gens : List Comprehension} {scope : Scope} {pos : Pos} {k : Nat} {target iter : Expr} {ifs : List Expr} {it acc : Value} {s : Shared} {Rk : Result → Shared → Prop}
    (hg : gens[k]? = some ⟨target, iter, ifs, 0⟩)
    (h0 : codeAny (model c.prog c.w) A (.compLoop (.ListComp elt gens scope pos) k it acc env) Rk s)
    (h : W c A (pyIter it) (fun it' s' => codeAny (model c.prog c.w) A (.compLoop (.ListComp elt gens scope pos) k it' acc env) Rk s') s) :
    codeAny (model c.prog c.w) A (.compStart (.ListComp elt gens scope pos) k it acc env) Rk s := by
  refine codeAny_of_tree ?_
  show wpAny _ _ ((compStart (.ListComp elt gens scope pos) k it acc env).onRaise (fun x => do noteFrame x env; standAt theWindowsPlace)) _ _ s
  refine wpAny_onRaise (wpAny_mono (?_ : W c A (compStart (.ListComp elt gens scope pos) k it acc env) _ s) (fun _ _ q => q) fun _ _ q => q.elim)
  unfold compStart
  have e0 : ((0 : Int) != 0) = false := rfl
  have ec : clausesOf (.ListComp elt gens scope pos) = gens := rfl
  rw [ec, hg]
  simp only [Option.elim_some, e0, Bool.false_eq_true, if_false]
  refine wpAny_bind (wpAny_askSetting (wpAny_ite ?_))
  split
  · exact wpAny_pure ⟨rfl, h0⟩
  · exact wpAny_bind (wpAny_rule (wpAny_bind (wpAny_standAt (wpAny_bind (wpAny_mono h (fun it' s' h' => wpAny_pure ⟨rfl, h'⟩) fun _ _ x => x)))))

/- a list comprehension's loop at its k-th for: what is still to come, and what is put down -/
structure CompLp (c : Cx) (b : Blk) (d : Nat) (elt : Expr) (gens : List Comprehension) (scope : Scope) (pos : Pos) (k : Nat) (ps : List PV) (ρ : Rho) (out : List PV) : Prop where
  run : ∀ (A : Around) (env : Env) (Mo : Mut) (s₀ : Shared) (K : List (Addr × Obj)) (M : Mut) (s : Shared) (it : Addr) (I : List PV → Heap → Mut → Prop) (acc : Addr) (l : List PV) (Rk : Result → Shared → Prop), IterOf c it I → Room d A →
    Fm c b env ρ Mo s₀ K M s → M it → ¬ Mo it → (∀ p ∈ K, p.1 ≠ it) → I ps s.heap M → Acc c acc l Mo M s → l.length + out.length ≤ 16777216 →
    (∀ s' M', Fm c b env ρ Mo s₀ K M' s' → Pres c M s M' s' → Acc c acc (l ++ out) Mo M' s' → Rk (.ok .next) s') →
    codeAny (model c.prog c.w) A (.compLoop (.ListComp elt gens scope pos) k (.ref it) (.ref acc) env) Rk s

/- what a turn puts down -/
inductive Turn (c : Cx) (b : Blk) (d : Nat) (elt : Expr) (gens : List Comprehension) (scope : Scope) (pos : Pos) (k : Nat) (ifs : List Expr) (ρ : Rho) : List PV → Prop
  | skip : Tests c b d ifs ρ true false → Turn c b d elt gens scope pos k ifs ρ []
  | emit {q : PV} : gens[k + 1]? = none → Tests c b d ifs ρ true true → Eval c b d elt ρ q → Turn c b d elt gens scope pos k ifs ρ [q]
  | nest {g : Comprehension} {v : PV} {out : List PV} : gens[k + 1]? = some g → g.is_async = 0 → (∀ env x, foldedSetIterable g.iter env x = pure x) → Tests c b d ifs ρ true true → Eval c b d g.iter ρ v → iterable v →
      CompLp c b d elt gens scope pos (k + 1) (itemsOf v) ρ out → Turn c b d elt gens scope pos k ifs ρ out

theorem Acc.ne_fields {acc it : Addr} {l : List PV} {Mo M : Mut} {s : Shared} {o : Obj} (a : Acc c acc l Mo M s) (ho : s.heap.get? it = some o) (hf : ∃ vs, o.data = .fields vs) : acc ≠ it := by
  obtain ⟨vs, n, g, _⟩ := a.at'
  exact list_ne_fields g ho hf
theorem Acc.stay {acc : Addr} {l : List PV} {env : Env} {Mo M : Mut} {s₀ s s' : Shared} {K : List (Addr × Obj)} (a : Acc c acc l Mo M s) (F : Fm c b env ρ Mo s₀ K M s) (hp : Pres c M s M s') (hst : Stay env s s') : Acc c acc l Mo M s' := by
  obtain ⟨vs, n, g, r⟩ := a.at'
  obtain ⟨m, hns, _⟩ := F.ns
  exact ⟨a.m, a.mo, vs, n, hst _ _ g (ns_ne_list hns g).symm (.inl fun v e => by cases e), hp.rs r⟩

theorem comp_nil {elt : Expr} {gens : List Comprehension} {scope : Scope} {pos : Pos} {k : Nat} {target iter : Expr} {ifs : List Expr} (hg : gens[k]? = some ⟨target, iter, ifs, 0⟩)
    (hn : ∀ g', gens[k + 1]? = some g' → g'.is_async = 0 ∧ ∀ env x, foldedSetIterable g'.iter env x = pure x) : CompLp c b d elt gens scope pos k [] ρ [] :=
  .mk fun A env Mo s₀ K M s it I acc l Rk hI hR F hM hMo hK hi ha hl h => by
    obtain ⟨o, ho, hf, _⟩ := hI.obj _ _ _ hi
    refine comp_turn hg (fun g' e => ⟨(hn g' e).1, (hn g' e).2 env⟩) (hI.done A M s _ hR.zero hM hi fun s' hb => ?_)
    have hne := ha.ne_fields ho hf
    refine h s' _ (F.gone hb hM hMo ho hf hK) (Pres.gone hM hb) ?_
    rw [List.append_nil]
    exact ha.step ⟨ha.m, hne⟩ (Pres.gone hM hb) fun o e => hb.keep _ _ hne e

theorem comp_cons {elt : Expr} {gens : List Comprehension} {scope : Scope} {pos : Pos} {k : Nat} {target iter : Expr} {ifs : List Expr} {p : PV} {ps o₁ o₂ : List PV} {ρ₁ : Rho} (hg : gens[k]? = some ⟨target, iter, ifs, 0⟩)
    (hn : ∀ g', gens[k + 1]? = some g' → g'.is_async = 0 ∧ ∀ env x, foldedSetIterable g'.iter env x = pure x) (h0 : Bind c b d target p ρ ρ₁) (hs : Sub ρ ρ₁) (hno : noOwn ρ₁ = true) (h1 : Turn c b d elt gens scope pos k ifs ρ₁ o₁)
    (h2 : CompLp c b d elt gens scope pos k ps ρ o₂) : CompLp c b d elt gens scope pos k (p :: ps) ρ (o₁ ++ o₂) :=
  .mk fun A env Mo s₀ K M s it I acc l Rk hI hR F hM hMo hK hi ha hl h => by
    obtain ⟨o, ho, hf, _⟩ := hI.obj _ _ _ hi
    refine comp_turn hg (fun g' e => ⟨(hn g' e).1, (hn g' e).2 env⟩) (hI.next A M s p ps _ hR.zero hM hi fun v s1 hb hr hi1 => ?_)
    obtain ⟨o', ho', hf', hn'⟩ := hI.obj _ _ _ hi1
    have F1' := F.but hb hM hMo ho hf hK ⟨o', ho'⟩
    have F1 := F1'.toprot (p := (it, o')) ⟨ho', hM, let ⟨_, hn, _⟩ := F1'.ns; .ofFields hn ho' hf'⟩
    have a1 : Acc c acc l Mo M s1 := ha.step ha.m (Pres.but hM hb) fun o e => hb.keep _ _ (ha.ne_fields ho hf) e
    refine letOwned ho' hn' ?_
    refine h0.run A env Mo s₀ ((it, o') :: K) M s1 v _ hR F1 (hr.but hM hb) fun s2 F2 hp2 hst2 => ?_
    have i2 : I ps s2.heap M := hI.stable ps s1 M s2 M hi1 ((F2.prot _ List.mem_cons_self).1.trans ho'.symm) hp2
    have a2 := a1.stay F1 hp2 hst2
    -- what is left when the turn has put down its part
    have rest : ∀ s' M', Fm c b env ρ₁ Mo s₀ ((it, o') :: K) M' s' → Pres c M s2 M' s' → Acc c acc (l ++ o₁) Mo M' s' → codeAny (model c.prog c.w) A (.compLoop (.ListComp elt gens scope pos) k (.ref it) (.ref acc) env) Rk s' := fun s' M' F' hp' ha' => by
      have pr := F'.prot _ List.mem_cons_self
      have i3 : I ps s'.heap M' := hI.stable ps s2 M s' M' i2 (pr.1.trans (F2.prot _ List.mem_cons_self).1.symm) hp'
      refine h2.run A env Mo s₀ K M' s' it I acc (l ++ o₁) Rk hI hR (F'.unprot.forget hs) pr.2.1 hMo hK i3 ha' (by simp only [List.length_append] at hl ⊢; lia) fun s'' M'' F'' hp'' ha'' => ?_
      refine h s'' M'' F'' ((((Pres.but hM hb).trans hp2).trans hp').trans hp'') ?_
      rw [← List.append_assoc]; exact ha''
    have accEx : ∀ s3 s', Acc c acc l Mo M s3 → Ex s3 s' → Acc c acc l Mo M s' := fun s3 s' a e => a.step a.m (Pres.ex e) fun o g => e.keep _ _ g
    cases h1 with
    | skip ht =>
      refine ht.run A env Mo s₀ _ M s2 _ hR F2 fun s3 e3 => ?_
      rw [if_neg (by decide)]
      exact rest s3 M (F2.ex e3) (Pres.ex e3) (by rw [List.append_nil]; exact accEx _ _ a2 e3)
    | @emit q hlast ht he =>
      refine ht.run A env Mo s₀ _ M s2 _ hR F2 fun s3 e3 => ?_
      rw [if_pos rfl]
      simp only [hlast]
      refine he.run A env Mo s₀ _ M s3 _ hR (F2.ex e3) fun u s4 e4 ru => ?_
      have e34 := e3.trans e4
      have F4 := F2.ex e34
      have a4 := accEx _ _ a2 e34
      obtain ⟨vs, n, g, r⟩ := a4.at'
      have hlen : vs.length + 1 ≤ 16777216 := by simp only [List.length_append, List.length_cons, List.length_nil] at hl; rw [r.length]; lia
      refine wpAny_call_entry slot_list_append ⟨_, g, rfl⟩ entry_list_append ?_ (args_list_append _ _)
      show W c A.in1 (updateSeq acc (·.push u) >>= fun _ => ret .none) _ s4
      refine wpAny_bind (wpAny_updateSeq g rfl (wpAny_pure ⟨.none, rfl, ?_⟩) (by show vs.length ≤ 16777216; lia) (by simp [sizeLine]; lia))
      obtain ⟨k', hk⟩ := update_list g (·.push u)
      have hsb : Heap.SameBut acc s4.heap (s4.heap.update acc (Obj.mapSeq (·.push u))) := Heap.SameBut.update ..
      refine rest _ M (F4.listMut (noOwn_lookup hno) a4.m a4.mo g hsb ⟨_, hk⟩) (fun q u r => (r.ex e34).off a4.m hsb) ⟨a4.m, a4.mo, vs ++ [u], k', by rw [hk]; simp, ?_⟩
      exact (r.append (.cons ru .nil)).off a4.m hsb
    | @nest g v' out hg' has hfold ht he hit hlp =>
      refine ht.run A env Mo s₀ _ M s2 _ hR F2 fun s3 e3 => ?_
      rw [if_pos rfl]
      simp only [hg']
      refine he.run A env Mo s₀ _ M s3 _ hR (F2.ex e3) fun u s4 e4 ru => ?_
      have e34 := e3.trans e4
      have F4 := F2.ex e34
      have a4 := accEx _ _ a2 e34
      refine iter_new F4.toBase hit ru fun it' s5 I' e5 hfr hI' hl' hi' => ?_
      have F5 := F4.addM e5 hfr hl'
      have p5 : Pres c M s4 (fun z => M z ∨ z = it') s5 := fun q u r => r.addM e5.keep hfr
      have a5 : Acc c acc l Mo (fun z => M z ∨ z = it') s5 := a4.step (.inl a4.m) p5 fun o g => e5.keep _ _ g
      have lp : codeAny (model c.prog c.w) A (.compLoop (.ListComp elt gens scope pos) (k + 1) (.ref it') (.ref acc) env) (fun r s₇ => match r with
          | .ok _ => codeAny (model c.prog c.w) A (.compLoop (.ListComp elt gens scope pos) k (.ref it) (.ref acc) env) Rk s₇
          | .error _ => False) s5 := by
        refine hlp.run A env Mo s₀ _ _ s5 it' I' acc l _ hI' hR F5 (.inr rfl) (F4.notMo hfr) (fun q hq e => ?_) hi' a5 (by simp only [List.length_append] at hl; lia) fun s6 M6 F6 hp6 a6 => ?_
        · have := (F4.prot q hq).1; rw [e, hfr] at this; cases this
        · exact rest s6 M6 F6 (((Pres.ex e34).trans p5).trans hp6) a6
      obtain ⟨tg, itx, ifx, asx⟩ := g
      cases has
      exact comp_start hg' lp (hI'.self A _ s5 _ _ hi' lp)
end
end Mine
end

section
open PySem PySem.W PyProof.Rows
open PySem.Builtin PySem.Builtin.Str
set_option Elab.async false
set_option maxRecDepth 100000
set_option linter.unusedVariables false
set_option autoImplicit false
namespace Mine

/- a comprehension's names within a block's -/
noncomputable def relab (scope sc : Scope) : Scope :=
  { scope with names := scope.names.map fun (n, k) => if (k == .free && sc.kind == .function && sc.names.lookup n == some .cell) then (n, .cell) else (n, k) }
noncomputable def compBlk (b : Blk) (scope : Scope) : Blk := ⟨relab scope b.scope, cellNames scope⟩
noncomputable def compOk (b : Blk) (scope : Scope) : Bool :=
  scope.kind == .function && decide (scope.names.map (·.1)).Nodup && scope.names.all fun p => p.2 != .free || (b.scope.names.lookup p.1 == some .cell || b.scope.names.lookup p.1 == some .free)

theorem lookup_of_mem {α : Type} : ∀ {l : List (Str × α)} {x : Str} {v : α}, (l.map (·.1)).Nodup → (x, v) ∈ l → l.lookup x = some v
  | (y, w) :: r, x, v, hn, h => by
    simp only [List.map_cons, List.nodup_cons] at hn
    rw [List.lookup_cons]
    rcases List.mem_cons.mp h with e | h
    · cases e; simp
    · have : x ≠ y := fun e => hn.1 (e ▸ List.mem_map.mpr ⟨_, h, rfl⟩)
      rw [beq_eq_false_iff_ne.mpr this]
      exact lookup_of_mem hn.2 h

theorem relab_lookup {scope sc : Scope} {x : Str} {k : NameKind} (h : (relab scope sc).names.lookup x = some k) : ∃ k', (x, k') ∈ scope.names ∧ (k = k' ∨ (k' = .free ∧ k = .cell)) := by
  have hm := mem_of_lookup h
  simp only [relab, List.mem_map] at hm
  obtain ⟨⟨n, k'⟩, hm, e⟩ := hm
  simp only at e
  split at e
  · rename_i hc
    cases e
    simp only [Bool.and_eq_true, beq_iff_eq] at hc
    exact ⟨k', hm, .inr ⟨hc.1.1, rfl⟩⟩
  · cases e; exact ⟨_, hm, .inl rfl⟩

section
variable {c : Cx} {b : Blk} {d : Nat} {ρ : Rho}

theorem closure_go {env : Env} : ∀ (names : List (Str × NameKind)) (acc : List (Str × Addr)), (∀ p ∈ names, p.2 = .free → ∃ a, env.cells.lookup p.1 = some a) →
    ∃ cl, (forIn names acc fun (x : Str × NameKind) (r : List (Str × Addr)) => (if (x.2 == NameKind.free) = true then do
        let a ← cellOf env x.1
        pure (ForInStep.yield ((x.1, a) :: r))
      else pure (ForInStep.yield r) : Sem (ForInStep (List (Str × Addr))))) = pure cl ∧ (∀ p, p ∈ cl ↔ p ∈ acc ∨ ((p.1, NameKind.free) ∈ names ∧ env.cells.lookup p.1 = some p.2)) ∧ (cl.map (·.1)) = ((names.filter fun p => p.2 == .free).map (·.1)).reverse ++ acc.map (·.1)
  | [], acc, _ => ⟨acc, by rw [List.forIn_nil], fun p => by simp, by simp⟩
  | (n, k) :: r, acc, h => by
    rw [List.forIn_cons]
    by_cases hk : k = .free
    · subst hk
      obtain ⟨a, ha⟩ := h (n, .free) List.mem_cons_self rfl
      obtain ⟨cl, h1, h2, h3⟩ := closure_go r ((n, a) :: acc) fun p hp => h p (List.mem_cons_of_mem _ hp)
      refine ⟨cl, ?_, fun p => ?_, ?_⟩
      · simp only [beq_self_eq_true, if_true]
        unfold cellOf
        rw [ha]
        exact h1
      · rw [h2]
        simp only [List.mem_cons, Prod.mk.injEq]
        constructor
        · rintro ((rfl | h) | h)
          · exact .inr ⟨.inl ⟨rfl, trivial⟩, ha⟩
          · exact .inl h
          · exact .inr ⟨.inr h.1, h.2⟩
        · rintro (h | ⟨(⟨h, -⟩ | h), h'⟩)
          · exact .inl (.inr h)
          · subst h; rw [ha] at h'; cases h'; exact .inl (.inl rfl)
          · exact .inr ⟨h, h'⟩
      · rw [h3]; simp
    · have hk' : (k == NameKind.free) = false := by simpa using hk
      obtain ⟨cl, h1, h2, h3⟩ := closure_go r acc fun p hp => h p (List.mem_cons_of_mem _ hp)
      refine ⟨cl, ?_, fun p => ?_, ?_⟩
      · simp only [hk', Bool.false_eq_true, if_false]
        exact h1
      · rw [h2]
        simp only [List.mem_cons, Prod.mk.injEq]
        constructor
        · rintro (h | h)
          · exact .inl h
          · exact .inr ⟨.inr h.1, h.2⟩
        · rintro (h | ⟨(⟨-, h⟩ | h), h'⟩)
          · exact .inl h
          · exact absurd h.symm hk
          · exact .inr ⟨h, h'⟩
      · rw [h3]; simp [hk']

theorem closure_ok {env : Env} {scope : Scope} (h : ∀ p ∈ scope.names, p.2 = .free → ∃ a, env.cells.lookup p.1 = some a) :
    ∃ cl, closureFor scope env = pure cl ∧ (∀ p, p ∈ cl ↔ ((p.1, NameKind.free) ∈ scope.names ∧ env.cells.lookup p.1 = some p.2)) ∧ (cl.map (·.1)) = ((scope.names.filter fun p => p.2 == .free).map (·.1)).reverse := by
  obtain ⟨cl, h1, h2, h3⟩ := closure_go (env := env) scope.names [] h
  refine ⟨cl, ?_, fun p => by rw [h2]; simp, by rw [h3]; simp⟩
  exact (congrArg (· >>= pure) h1).trans rfl

theorem cellsFrom_append : ∀ (names : List (Str × NameKind)) (n : Nat) (acc : List (Str × Addr)), cellsFrom n names acc = cellsFrom n names [] ++ acc
  | [], _, acc => rfl
  | (x, k) :: r, n, acc => by
    unfold cellsFrom
    split
    · rw [cellsFrom_append r (n + 1) ((x, n) :: acc), cellsFrom_append r (n + 1) [(x, n)], List.append_assoc]; rfl
    · exact cellsFrom_append r n acc
theorem cellsFrom_name : ∀ (names : List (Str × NameKind)) (n : Nat) (p : Str × Addr), p ∈ cellsFrom n names [] → (p.1, NameKind.cell) ∈ names
  | [], _, p, h => by cases h
  | (x, k) :: r, n, p, h => by
    unfold cellsFrom at h
    split at h
    · rename_i hk
      rw [cellsFrom_append] at h
      rcases List.mem_append.mp h with h | h
      · exact List.mem_cons_of_mem _ (cellsFrom_name r _ p h)
      · simp only [List.mem_singleton] at h
        subst h
        rw [beq_iff_eq] at hk; rw [← hk]; exact List.mem_cons_self
    · exact List.mem_cons_of_mem _ (cellsFrom_name r _ p h)

theorem lookup_append {α : Type} : ∀ (l r : List (Str × α)) (x : Str), (l ++ r).lookup x = (l.lookup x).or (r.lookup x)
  | [], r, x => by simp
  | (y, w) :: l, r, x => by
    simp only [List.cons_append, List.lookup_cons]
    cases x == y with
    | true => simp
    | false => simp only; exact lookup_append l r x
theorem lookup_none_of {α : Type} : ∀ {l : List (Str × α)} {x : Str}, (∀ v, (x, v) ∉ l) → l.lookup x = none
  | [], _, _ => rfl
  | (y, w) :: r, x, h => by
    rw [List.lookup_cons]
    have : x ≠ y := fun e => h w (by rw [e]; exact List.mem_cons_self)
    rw [beq_eq_false_iff_ne.mpr this]
    exact lookup_none_of fun v hv => h v (List.mem_cons_of_mem _ hv)

/- a comprehension up to its end -/
theorem comp_core {A : Around} {env : Env} {Mo M : Mut} {s₀ s : Shared} {K : List (Addr × Obj)} {elt target iter : Expr} {ifs : List Expr} {rest : List Comprehension} {scope : Scope} {pos pos' : Pos} {v : PV} {ρ' : Rho} {out : List PV}
    {use : Option (Value → Sem Unit)} {Q : Value → Shared → Prop} (hR : Room d A) (F : Fm c b env ρ Mo s₀ K M s) (hok : compOk b scope = true) (h1 : Eval c b d iter ρ v) (hit : iterable v) (hs : ∀ env x, foldedSetIterable iter env x = pure x)
    (hsub : Sub ρ' ρ) (hno : noOwn ρ' = true) (hfr : ρ'.all (fun p => scope.names.contains (p.1, .free)) = true)
    (h2 : CompLp c (compBlk b scope) d elt (⟨target, iter, ifs, 0⟩ :: rest) scope pos 0 (itemsOf v) ρ' out) (hlen : out.length ≤ 16777216)
    (h : ∀ acc C s' vs n, Ex s s' → s.heap.get? C = none → (∃ m, s'.heap.Ns C m) → ¬ M acc → acc ≠ C → s'.heap.get? acc = some (listObj vs n) → Rs c s'.heap (fun z => M z ∨ z = C) out vs →
      compPost (model c.prog c.w) A (fun _ _ => False) use Q (.ref acc) C (.ok .next) s') :
    W c A (comprehension (.ListComp elt (⟨target, iter, ifs, 0⟩ :: rest) scope pos) scope env pos' (newList []) false (eval iter env) use) Q s := by
  simp only [compOk, Bool.and_eq_true, beq_iff_eq, decide_eq_true_eq, List.all_eq_true, Bool.or_eq_true, bne_iff_ne] at hok
  obtain ⟨⟨hkind, hnd⟩, hfree⟩ := hok
  have hcell : ∀ p ∈ scope.names, p.2 = .free → ∃ a ov, env.cells.lookup p.1 = some a ∧ M a ∧ s.heap.IsCell a ov ∧ Slot c s.heap Mo M (ρ.lookup p.1) ov := fun p hp hf => by
    rcases hfree p hp with e | e
    · exact absurd hf e
    · exact F.cells p.1 e
  obtain ⟨cl, hcl, hmem, hnames⟩ := closure_ok (env := env) (scope := scope) fun p hp hf => let ⟨a, _, e, _⟩ := hcell p hp hf; ⟨a, e⟩
  refine wpAny_comprehension_free rfl (hs env) hcl hkind (fun x hx hl => lookup_of_mem hnd (by rw [← hl]; exact hx)) ?_
  refine h1.run A env Mo s₀ K M s _ hR F fun xv s1 e1 r1 => iter_new (F.ex e1).toBase hit r1 fun it s2 I e2 hfrit hI hlit hi => ?_
  have F1 := F.ex e1
  refine wpAny_newList ?_
  have lay : ∀ (E : Value → Shared → Prop) (s3 : Shared) (Q' : Env → Shared → Prop), Q' (newEnv scope s3.heap.objs.size env.globals (cellsFrom (s3.heap.objs.size + 1) scope.names cl) env.qual none .none (some env) builtinsNs)
      { s3 with heap := pushCells (s3.heap.push { cls := .type "dict", data := .dict #[] }) scope.names } → wpAny (model c.prog c.w) A (newFunctionEnv scope env.globals cl [] env.qual none .none (some env)) Q' E s3 := fun E s3 Q' hq => by
    simp only [newFunctionEnv, Option.isSome_some, if_true]
    refine wpAny_bind (wpAny_alloc ?_)
    refine wpAny_bind (wpAny_layCells _ (fun name kind cells => by cases hkc : kind == NameKind.cell <;> simp) _ _ _ _ ?_)
    rw [show ({ s3 with heap := s3.heap.push { cls := .type "dict", data := .dict #[] } } : Shared).heap.objs.size = s3.heap.objs.size + 1 from Heap.size_push ..]
    exact wpAny_bind (wpAny_pure (wpAny_pure hq))
  refine lay _ _ _ ?_
  -- the states
  have e3 : Ex s2 { s2 with heap := s2.heap.push (listObj [] 0) } := Ex.push s2 _
  have hacc0 : s2.heap.get? s2.heap.objs.size = none := fresh_none s2
  have hacc1 : (s2.heap.push (listObj [] 0)).get? s2.heap.objs.size = some (listObj [] 0) := Heap.get?_push_size _ rfl
  generalize hac : s2.heap.objs.size = acc at *
  generalize hs3 : ({ s2 with heap := s2.heap.push (listObj [] 0) } : Shared) = s3 at *
  have hh3 : s2.heap.push (listObj [] 0) = s3.heap := by rw [← hs3]
  rw [hh3] at hacc1
  have hC0 : s3.heap.get? s3.heap.objs.size = none := fresh_none s3
  have k4 : ∀ z o, s3.heap.get? z = some o → (pushCells (s3.heap.push { cls := .type "dict", data := .dict #[] }) scope.names).get? z = some o := fun z o g => pushCells_keeps _ _ z o (Heap.get?_push_of_some _ g)
  have hns4 : (pushCells (s3.heap.push { cls := .type "dict", data := .dict #[] }) scope.names).Ns s3.heap.objs.size (fun _ => none) := (Heap.Ns.new s3.heap (.type "dict")).keeps (pushCells_keeps _ _)
  have ok4 := cellsFrom_ok scope.names (s3.heap.push { cls := .type "dict", data := .dict #[] }) (s3.heap.objs.size + 1) [] ⟨fun _ _ hm => (nomatch hm), List.Pairwise.nil⟩ (by rw [Heap.size_push]; exact Nat.le_refl _)
  rw [Heap.size_push] at ok4
  rw [cellsFrom_append]
  generalize hown : cellsFrom (s3.heap.objs.size + 1) scope.names [] = own at *
  have hownN : ∀ p ∈ own, (p.1, NameKind.cell) ∈ scope.names := fun p hp => cellsFrom_name _ _ p (by rw [hown]; exact hp)
  have hownH : ∀ x, (x, NameKind.cell) ∈ scope.names → ∃ a, (x, a) ∈ own := fun x hx => by rw [← hown]; exact cellsFrom_has _ _ _ x hx
  generalize hs4 : ({ s3 with heap := pushCells (s3.heap.push { cls := .type "dict", data := .dict #[] }) scope.names } : Shared) = s4
  have hh4 : pushCells (s3.heap.push { cls := .type "dict", data := .dict #[] }) scope.names = s4.heap := by rw [← hs4]
  rw [hh4] at hns4 k4 ok4
  have e4 : Ex s3 s4 := ⟨k4, by rw [← hs4], by rw [← hs4]; exact Nat.le_refl _, by rw [← hs4]; exact id, by rw [← hs4]; exact fun _ _ e => e⟩
  generalize hCg : s3.heap.objs.size = C at *
  have e14 : Ex s1 s4 := (e2.trans e3).trans e4
  -- fresh places
  have n1 : ∀ z, s3.heap.get? z = none → s1.heap.get? z = none := fun z hz => by
    cases q : s1.heap.get? z with
    | none => rfl
    | some o => rw [(e2.trans e3).keep _ _ q] at hz; cases hz
  have hC1 := n1 C hC0
  have hacc1' : s1.heap.get? acc = none := by
    cases q : s1.heap.get? acc with
    | none => rfl
    | some o => rw [e2.keep _ _ q] at hacc0; cases hacc0
  have own3 : ∀ p ∈ own, s3.heap.get? p.2 = none := fun p hp => by
    have lo := (ok4.empty p.1 p.2 hp).2
    cases q : s3.heap.get? p.2 with
    | none => rfl
    | some o => have hi := Heap.lt_size q; rw [hCg] at hi; exact absurd (Nat.lt_of_lt_of_le hi (Nat.le_of_succ_le lo)) (Nat.lt_irrefl _)
  have own1 : ∀ p ∈ own, s1.heap.get? p.2 = none := fun p hp => n1 _ (own3 p hp)
  let M' : Mut := fun z => M z ∨ z = it ∨ z = acc ∨ z = C ∨ ∃ x, (x, z) ∈ own
  have hM' : ∀ z o, s1.heap.get? z = some o → M' z → M z := fun z o hz hm => by
    rcases hm with hm | rfl | rfl | rfl | ⟨x, hx⟩
    · exact hm
    · rw [hfrit] at hz; cases hz
    · rw [hacc1'] at hz; cases hz
    · rw [hC1] at hz; cases hz
    · rw [own1 _ hx] at hz; cases hz
  have p14 : Pres c M s1 M' s4 := fun q u r => r.mono (fun z o _ g => e14.keep z o g) hM'
  have h1n : ∀ z, s1.heap.get? z = none → c.h1.get? z = none := fun z hz => by
    cases q : c.h1.get? z with
    | none => rfl
    | some o => rw [F1.h1 _ _ q] at hz; cases hz
  have nM : ∀ z, s1.heap.get? z = none → ¬ M z := fun z hz hm => by obtain ⟨o, g⟩ := F1.mlt z hm; rw [hz] at g; cases g
  have clM : ∀ x a, (x, a) ∈ cl → M a ∧ ∃ ov, s1.heap.IsCell a ov ∧ Slot c s1.heap Mo M (ρ.lookup x) ov := fun x a hx => by
    obtain ⟨hf, hl⟩ := (hmem (x, a)).mp hx
    obtain ⟨a', ov, e, m, ic, sl⟩ := hcell _ hf rfl
    rw [hl] at e; cases e
    exact ⟨m, ov, ic.keeps e1.keep, sl.mono (fun z o _ g => e1.keep z o g) (fun _ _ _ m => m) fun _ z o _ _ m _ g => ⟨m, e1.keep _ _ g⟩⟩
  have kinds : ∀ x k k', (x, k) ∈ scope.names → (x, k') ∈ scope.names → k = k' := fun x k k' h h' => by
    have h1 := lookup_of_mem hnd h
    have h2 := lookup_of_mem hnd h'
    rw [h1] at h2; cases h2; rfl
  have hρ : ∀ x bd, ρ'.lookup x = some bd → (x, NameKind.free) ∈ scope.names := fun x bd hx => by
    have := (List.all_eq_true.mp hfr) _ (mem_of_lookup hx)
    simpa using this
  let cenv : Env := { newEnv scope C env.globals (own ++ cl) env.qual none .none (some env) builtinsNs with scope := relabel scope env }
  have hrel : relabel scope env = relab scope b.scope := by unfold relabel relab Env.kindOf; rw [F.scope]
  have F4 : Fm c (compBlk b scope) cenv ρ' M s1 [] M' s4 := {
    scope := hrel, kind := hkind, glob := F.glob, blt := F.blt
    base := e14
    h1 := fun z o g => e14.keep z o (F1.h1 z o g)
    h1M := fun z hz => by
      rcases hz with hz | rfl | rfl | rfl | ⟨x, hx⟩
      · exact F1.h1M z hz
      · exact h1n _ hfrit
      · exact h1n _ hacc1'
      · exact h1n _ hC1
      · exact h1n _ (own1 _ hx)
    tok := Nat.le_trans F1.tok e14.toks
    mo := fun z hz => .inl hz
    mlt := fun z hz => by
      rcases hz with hz | rfl | rfl | rfl | ⟨x, hx⟩
      · obtain ⟨o, g⟩ := F1.mlt z hz; exact ⟨o, e14.keep z o g⟩
      · obtain ⟨o, g⟩ := hlit; exact ⟨o, (e3.trans e4).keep _ _ g⟩
      · exact ⟨_, e4.keep _ _ hacc1⟩
      · obtain ⟨o, _, _, g, _⟩ := hns4; exact ⟨o, g⟩
      · obtain ⟨o, g, _⟩ := (ok4.empty _ _ hx).1; exact ⟨o, g⟩
    molt := fun z hz => F1.mlt z hz
    mfresh := fun z hz hmo => by
      rcases hz with hz | rfl | rfl | rfl | ⟨x, hx⟩
      · exact absurd hz hmo
      · exact hfrit
      · exact hacc1'
      · exact hC1
      · exact own1 _ hx
    lM := .inr (.inr (.inr (.inl rfl)))
    lMo := nM _ hC1
    ns := by
      refine ⟨_, hns4, fun x hx => ?_, fun x y a l l' _ e1 => absurd e1 (noOwn_lookup hno x l)⟩
      obtain ⟨k', hk, hkk⟩ := relab_lookup hx
      have : ρ'.lookup x = none := by
        cases q : ρ'.lookup x with
        | none => rfl
        | some bd =>
          have := kinds x _ _ hk (hρ x bd q)
          subst this
          rcases hkk with e | ⟨_, e⟩ <;> cases e
      rw [this]; trivial
    ownl := fun x l e => absurd e (noOwn_lookup hno x l)
    cells := fun x hx => by
      have hx' : (x, NameKind.cell) ∈ scope.names ∨ (x, NameKind.free) ∈ scope.names := by
        rcases hx with hx | hx
        · obtain ⟨k', hk, hkk⟩ := relab_lookup hx
          rcases hkk with rfl | ⟨rfl, _⟩
          · exact .inl hk
          · exact .inr hk
        · obtain ⟨k', hk, hkk⟩ := relab_lookup hx
          rcases hkk with rfl | ⟨rfl, _⟩
          · exact .inr hk
          · exact .inr hk
      show ∃ a ov, (own ++ cl).lookup x = some a ∧ _
      rw [lookup_append]
      rcases hx' with hx' | hx'
      · obtain ⟨a, ha⟩ := hownH x hx'
        obtain ⟨a', ha'⟩ := Option.isSome_iff_exists.mp (lookup_isSome ha)
        refine ⟨a', none, by rw [ha']; rfl, .inr (.inr (.inr (.inr ⟨x, mem_of_lookup ha'⟩))), (ok4.empty _ _ (mem_of_lookup ha')).1, ?_⟩
        have : ρ'.lookup x = none := by
          cases q : ρ'.lookup x with
          | none => rfl
          | some bd => cases kinds x _ _ hx' (hρ x bd q)
        rw [this]; trivial
      · have ho : own.lookup x = none := lookup_none_of fun a ha => by cases kinds x _ _ hx' (hownN _ ha)
        obtain ⟨a, ov, ha, _⟩ := hcell _ hx' rfl
        have hin : (x, a) ∈ cl := (hmem (x, a)).mpr ⟨hx', ha⟩
        obtain ⟨a', ha'⟩ := Option.isSome_iff_exists.mp (lookup_isSome hin)
        obtain ⟨m, ov', ic, sl⟩ := clM x a' (mem_of_lookup ha')
        refine ⟨a', ov', by rw [ho, ha']; rfl, .inl m, ic.keeps e14.keep, ?_⟩
        cases q : ρ'.lookup x with
        | none => trivial
        | some bd =>
          rw [hsub x bd q] at sl
          match bd, sl with
          | .val p, ⟨v, e, r⟩ => exact ⟨v, e, p14 _ _ r⟩
          | .own l, _ => exact absurd q (noOwn_lookup hno x l)
    cdist := by
      refine List.pairwise_append.mpr ⟨ok4.apart, ?_, fun p hp q hq e => ?_⟩
      · have hcn : (cl.map (·.1)).Nodup := by
          rw [hnames, List.Nodup, List.pairwise_reverse]
          exact (hnd.sublist (List.filter_sublist.map _)).imp fun h => h.symm
        have : cl.Pairwise fun x y => x.1 ≠ y.1 := by
          have := hcn
          rw [List.Nodup, List.pairwise_map] at this
          exact this
        refine this.imp_of_mem fun {p q} hp hq hne e => hne ?_
        have h1 := ((hmem p).mp hp).2
        have h2 := ((hmem q).mp hq).2
        rw [← e] at h2
        exact name_of_addr F.cdist (mem_of_lookup h1) (mem_of_lookup h2)
      · have := own1 p hp
        obtain ⟨m, ov, ic, _⟩ := clM q.1 q.2 hq
        obtain ⟨o, g, _⟩ := ic
        rw [e, g] at this; cases this
    cmo := fun x a hx ha => by
      have hx' : (x, NameKind.cell) ∈ scope.names := by
        simp only [compBlk, cellNames, List.mem_map, List.mem_filter, beq_iff_eq] at hx
        obtain ⟨⟨n, k⟩, ⟨hm, hk⟩, rfl⟩ := hx
        simp only at hk; subst hk; exact hm
      have ha' : (own ++ cl).lookup x = some a := ha
      rw [lookup_append] at ha'
      obtain ⟨z, hz⟩ := hownH x hx'
      obtain ⟨z', hz'⟩ := Option.isSome_iff_exists.mp (lookup_isSome hz)
      rw [hz'] at ha'
      cases ha'
      exact nM _ (own1 _ (mem_of_lookup hz'))
    prot := fun q hq => by cases hq }
  have hi4 : I (itemsOf v) s4.heap M' := by
    obtain ⟨o, ho⟩ := hlit
    refine hI.stable _ s2 _ s4 M' hi (((e3.trans e4).keep _ _ ho).trans ho.symm) fun q u r => r.mono (fun z o _ g => (e3.trans e4).keep z o g) fun z o hz hm => ?_
    rcases hm with hm | rfl | rfl | rfl | ⟨x, hx⟩
    · exact .inl hm
    · exact .inr rfl
    · rw [hacc0] at hz; cases hz
    · rw [e3.keep _ _ hz] at hC0; cases hC0
    · have := own3 _ hx; rw [e3.keep _ _ hz] at this; cases this
  have a4 : Acc c acc [] M M' s4 := ⟨.inr (.inr (.inl rfl)), nM _ hacc1', [], 0, e4.keep _ _ hacc1, .nil⟩
  have lp : codeAny (model c.prog c.w) A (.compLoop (.ListComp elt (⟨target, iter, ifs, 0⟩ :: rest) scope pos) 0 (.ref it) (.ref acc) cenv)
      (compPost (model c.prog c.w) A (fun _ _ => False) use Q (.ref acc) C) s4 := by
    refine h2.run A cenv M s1 [] M' s4 it I acc [] _ hI hR F4 (.inr (.inl rfl)) (nM _ hfrit) (fun q hq => by cases hq) hi4 a4 (by simpa using hlen) fun s' M5 F5 hp5 a5 => ?_
    obtain ⟨vs, n, g, r⟩ := a5.at'
    obtain ⟨m, hns, _⟩ := F5.ns
    refine h acc C s' vs n (e1.trans F5.base) ?_ ⟨m, hns⟩ (nM _ hacc1') ?_ g ?_
    · cases q : s.heap.get? C with
      | none => rfl
      | some o => rw [e1.keep _ _ q] at hC1; cases hC1
    · rintro rfl
      rw [hacc1] at hC0; cases hC0
    · refine r.mono (fun z o _ g => g) fun z o _ hm => ?_
      rcases hm with hm | rfl
      · exact F5.mo z hm
      · exact F5.lM
  exact comp_start rfl lp (hI.self A _ s4 _ _ hi4 lp)

theorem ev_comp {elt target iter : Expr} {ifs : List Expr} {rest : List Comprehension} {scope : Scope} {pos : Pos} {v : PV} {ρ' : Rho} {out : List PV} (hok : compOk b scope = true) (h1 : Eval c b d iter ρ v) (hit : iterable v)
    (hs : ∀ env x, foldedSetIterable iter env x = pure x) (hsub : Sub ρ' ρ) (hno : noOwn ρ' = true) (hfr : ρ'.all (fun p => scope.names.contains (p.1, .free)) = true)
    (h2 : CompLp c (compBlk b scope) d elt (⟨target, iter, ifs, 0⟩ :: rest) scope pos 0 (itemsOf v) ρ' out) (hlen : out.length ≤ 16777216) : Eval c b d (.ListComp elt (⟨target, iter, ifs, 0⟩ :: rest) scope pos) ρ (.list out) :=
  .mk fun A env Mo s₀ K M s Q hR F h => by
    rw [eval_ListComp]
    refine comp_core hR F hok h1 hit hs hsub hno hfr h2 hlen fun acc C s' vs n e hC hns hac hne hg hr => ?_
    obtain ⟨m, hns⟩ := hns
    refine ⟨m, hns, fun h' hsb => h (.ref acc) _ ⟨fun z o g => ?_, e.os, e.toks, e.bare, e.gens⟩ (.list (n := n) hac ((hsb.2 _ hne).trans hg) (hr.mono (fun z o hz g => ?_) fun z o _ hm => .inl hm))⟩
    · exact (hsb.2 z (by rintro rfl; rw [hC] at g; cases g)).trans (e.keep z o g)
    · exact (hsb.2 z (by rintro rfl; exact hz (.inr rfl))).trans g

/- a namespace of no name's has gone out of use -/
theorem Fm.nsGone {env : Env} {Mo M : Mut} {K : List (Addr × Obj)} {s₀ s : Shared} {a : Addr} {m₀ : Str → Option Value} {h' : Heap} (F : Fm c b env ρ Mo s₀ K M s) (hM : M a) (hMo : ¬ Mo a) (hL : a ≠ env.locals) (hn : s.heap.Ns a m₀)
    (hsb : Heap.SameBut a s.heap h') (hK : ∀ p ∈ K, p.1 ≠ a) : Fm c b env ρ Mo s₀ K (fun z => M z ∧ z ≠ a) { s with heap := h' } := by
  obtain ⟨m, hns, hsl, hdis⟩ := F.ns
  have slot : ∀ bd ov, Slot c s.heap Mo M bd ov → Slot c h' Mo (fun z => M z ∧ z ≠ a) bd ov := fun x ov h =>
    h.mono (fun z o hz e => (hsb.2 z fun q => hz (q ▸ hM)).trans e) (fun _ _ _ m => m.1) fun l z o' e1 e2 m mo g => by
      have hne : z ≠ a := by
        subst e1
        obtain ⟨z', vs, n, e, _, _, g', _⟩ := h
        rw [e2] at e; cases e
        exact (ns_ne_list hn g').symm
      exact ⟨⟨m, hne⟩, (hsb.2 z hne).trans g⟩
  exact {
    scope := F.scope, kind := F.kind, glob := F.glob, blt := F.blt
    base := F.baseSame hM hMo hsb (Nat.le_refl _)
    h1 := F.h1Same hM hsb
    h1M := fun z hz => F.h1M z hz.1
    tok := F.tok
    mo := fun z m => ⟨F.mo z m, fun e => hMo (e ▸ m)⟩
    mlt := fun z m => by obtain ⟨o', g⟩ := F.mlt z m.1; exact ⟨o', (hsb.2 z m.2).trans g⟩
    molt := F.molt
    mfresh := fun z m => F.mfresh z m.1
    lM := ⟨F.lM, hL.symm⟩
    lMo := F.lMo
    ns := ⟨m, hns.sameBut hsb hL.symm, fun x hx => slot _ _ (hsl x hx), hdis⟩
    ownl := F.ownl
    cells := fun y hy => (by obtain ⟨a', ov, h1, h2, h3, h4⟩ := F.cells y hy; exact ⟨a', ov, h1, ⟨h2, (ns_ne_cell hn h3).symm⟩, h3.sameBut hsb (ns_ne_cell hn h3).symm, slot _ _ h4⟩)
    cdist := F.cdist, cmo := F.cmo
    prot := fun p hp => (by obtain ⟨h1, h2, h3⟩ := F.prot p hp; exact ⟨(hsb.2 _ (hK p hp)).trans h1, ⟨h2, hK p hp⟩, h3⟩) }

noncomputable def swaps (b : Blk) (x : Str) (px : Pos) (value : Expr) : Bool := match value with
  | .ListComp _ _ scope _ => b.scope.kind == .function && b.scope.names.lookup x == some .local && px.line == value.pos.line && !(scope.names.any fun (n, k) => n == x && (k == .local || k == .cell))
  | _ => false

theorem ex_assign_comp {x : Str} {px spos : Pos} {elt target iter : Expr} {ifs : List Expr} {rest : List Comprehension} {scope : Scope} {pos : Pos} {v : PV} {ρ' : Rho} {out : List PV} (hsw : swaps b x px (.ListComp elt (⟨target, iter, ifs, 0⟩ :: rest) scope pos) = true)
    (hok : compOk b scope = true) (h1 : Eval c b d iter ρ v) (hit : iterable v)
    (hs : ∀ env x, foldedSetIterable iter env x = pure x) (hsub : Sub ρ' ρ) (hno : noOwn ρ' = true) (hfr : ρ'.all (fun p => scope.names.contains (p.1, .free)) = true)
    (h2 : CompLp c (compBlk b scope) d elt (⟨target, iter, ifs, 0⟩ :: rest) scope pos 0 (itemsOf v) ρ' out) (hlen : out.length ≤ 16777216) :
    Exec1 c b d (.Assign [.Name x px] (.ListComp elt (⟨target, iter, ifs, 0⟩ :: rest) scope pos) spos) ρ .next (rset ρ x (.val (.list out))) :=
  .mk fun A env Mo s₀ K M s Q hR F h => by
    have hsw' : ∀ line, swapsWith (.ListComp elt (⟨target, iter, ifs, 0⟩ :: rest) scope pos) (some (.Name x px)) line env = pure true := fun line => by
      show (pure (env.blockKind == .function && env.kindOf x == some .local && px.line == (Expr.ListComp elt (⟨target, iter, ifs, 0⟩ :: rest) scope pos).pos.line
        && !(scope.names.any fun (n, k) => n == x && (k == .local || k == .cell))) : Sem Bool) = pure true
      have hb : env.blockKind = b.scope.kind := by
        unfold Env.blockKind; simp only [F.scope, F.kind, ScopeKind.isAnnotationScope, Bool.false_eq_true, if_false]
      rw [F.kindOf, hb]
      exact congrArg pure hsw
    have hloc : b.scope.names.lookup x = some .local := by
      have hsw : (_ && _ && _ && _) = true := hsw
      rw [Bool.and_eq_true, Bool.and_eq_true, Bool.and_eq_true, beq_iff_eq, beq_iff_eq] at hsw
      exact hsw.1.1.2
    rw [exec_Assign_Name_used _ _ _ _ (hsw' _)]
    refine wpAny_bind (wpAny_standAt (wpAny_bind ?_))
    show W c A (do let _ ← comprehension (.ListComp elt (⟨target, iter, ifs, 0⟩ :: rest) scope pos) scope env _ (newList []) false (eval iter env) (some (assign (.Name x px) env))) _ s
    refine wpAny_bind (wpAny_mono (comp_core (Q := fun _ s' => Q .next s') hR F hok h1 hit hs hsub hno hfr h2 hlen fun acc C s' vs n e hC hns hac hne hg hr => ?_) (fun _ s' hq => wpAny_pure (wpAny_pure hq)) fun _ _ q => q)
    obtain ⟨m, hns⟩ := hns
    have hCl : ∃ o, s'.heap.get? C = some o := by obtain ⟨o, _, _, g, _⟩ := hns; exact ⟨o, g⟩
    have F' : Fm c b env ρ Mo s₀ K (fun z => M z ∨ z = C) s' := F.addM e hC hCl
    have hr' : R c s'.heap (fun z => M z ∨ z = C) (.list out) (.ref acc) := .list (n := n) (fun hm => hm.elim hac hne) hg hr
    show W c A (assign (.Name x px) env (.ref acc)) _ s'
    refine wpAny_assign_Name (F'.storeV' (.inl hloc) hr' fun s2 F2 hp2 hst => ?_)
    obtain ⟨mL, hnsL, _⟩ := F'.ns
    have hCL : C ≠ env.locals := by
      rintro rfl
      obtain ⟨o, g⟩ := F.mlt _ F.lM
      rw [hC] at g; cases g
    obtain ⟨oC, ents, ep, gC, hdC, restC⟩ := hns
    have hns2 : s2.heap.Ns C m := ⟨oC, ents, ep, hst _ _ gC hCL (.inl fun v e => by rw [hdC] at e; cases e), hdC, restC⟩
    refine ⟨m, hns2, fun h' hsb => ?_⟩
    refine h .next _ _ (F2.nsGone (.inr rfl) (F.notMo hC) hCL hns2 hsb fun q hq e' => by have := (F.prot q hq).1; rw [e', hC] at this; cases this) (fun q u r => ?_) rfl
    exact (hp2 q u (r.addM e.keep hC)).mono (fun z o hz g => (hsb.2 z fun q => hz (.inr q)).trans g) fun _ _ _ m => m.1
end
end Mine
end

section
open PySem PySem.W PyProof.Rows
open PySem.Builtin PySem.Builtin.Str
set_option Elab.async false
set_option maxRecDepth 100000
set_option linter.unusedVariables false
set_option autoImplicit false
namespace Mine

section
variable {c : Cx} {b : Blk} {d : Nat} {ρ : Rho}

/- several targets take several values, in order -/
structure Binds (c : Cx) (b : Blk) (d : Nat) (ts : List Expr) (ps : List PV) (ρ ρ' : Rho) : Prop where
  run : ∀ (A : Around) (env : Env) (Mo : Mut) (s₀ : Shared) (K : List (Addr × Obj)) (M : Mut) (s : Shared) (vs : List Value) (Q : Unit → Shared → Prop), Room d A → Fm c b env ρ Mo s₀ K M s → Rs c s.heap M ps vs →
    (∀ s', Fm c b env ρ' Mo s₀ K M s' → Pres c M s M s' → Stay env s s' → Q () s') → W c A (assignInOrder (ts.map fun t => assign t env) vs) Q s
theorem binds_nil : Binds c b d [] [] ρ ρ := .mk fun A env Mo s₀ K M s vs Q hR F hr h => by
  cases hr
  exact wpAny_pure (h s F (Pres.refl _ _ _) (Stay.refl _ _))
theorem binds_cons {t : Expr} {ts : List Expr} {p : PV} {ps : List PV} {ρ₁ ρ₂ : Rho} (h1 : Bind c b d t p ρ ρ₁) (h2 : Binds c b d ts ps ρ₁ ρ₂) : Binds c b d (t :: ts) (p :: ps) ρ ρ₂ :=
  .mk fun A env Mo s₀ K M s vs Q hR F hr h => by
    cases hr with
    | cons hp hps =>
      show W c A (do holding _ (assign t env _); assignInOrder _ _) Q s
      refine wpAny_bind (wpAny_holding (h1.run A env Mo s₀ K M s _ _ hR F hp fun s1 F1 hp1 hst1 => ?_))
      exact h2.run A env Mo s₀ K M s1 _ Q hR F1 (hp1.rs hps) fun s2 F2 hp2 hst2 => h s2 F2 (hp1.trans hp2) (hst1.trans hst2)

theorem assignEach_map {ts : List Expr} (h : ts.all (fun t => !isStar t) = true) (env : Env) : assignEach ts env = ts.map fun t => (false, assign t env) := by
  induction ts with
  | nil => rfl
  | cons t ts ih =>
    simp only [List.all_cons, Bool.and_eq_true] at h
    have := ih h.2
    cases t <;> first | exact absurd h.1 Bool.false_ne_true | exact congrArg (List.cons _) this

theorem Ex.but_fresh {s : Shared} {h' : Heap} (h : Heap.ExtBut s.heap.objs.size s.heap h') : Ex s { s with heap := h' } :=
  ⟨fun z o g => h z o (Nat.ne_of_lt (Heap.lt_size g)) g, rfl, Nat.le_refl _, id, fun _ _ e => e⟩

theorem bind_tup {ts : List Expr} {k : Nat} {pos : Pos} {ps : List PV} {ρ' : Rho} (h1 : Binds c b d ts ps ρ ρ') (hst : ts.all (fun t => !isStar t) = true) (hlen : ts.length = ps.length) : Bind c b d (.Tuple ts k pos) (.tup ps) ρ ρ' :=
  .mk fun A env Mo s₀ K M s v Q hR F hr h => by
    obtain ⟨a, vs, rfl, hna, hg, hs⟩ := hr.tup_inv
    have e1 : (assignEach ts env).length = vs.toArray.size := by rw [assignEach_map hst]; simp [hs.length, hlen]
    have e2 : (assignEach ts env).findIdx? (·.1) = none := by rw [assignEach_map hst, List.findIdx?_eq_none_iff]; simp
    refine wpAny_assign_Tuple hR.handled ⟨_, hg, rfl, 0, rfl⟩ e1 e2 fun h' hx => ?_
    rw [assignEach_map hst, List.map_map]
    have ex := Ex.but_fresh hx
    exact h1.run A env Mo s₀ K M _ vs Q hR (F.ex ex) (hs.ex ex) fun s' F' hp hst' => h s' F' ((Pres.ex ex).trans hp) ((Stay.ex ex).trans hst')
end
end Mine
end

section
open PySem PySem.W PyProof.Rows
set_option Elab.async false
set_option maxRecDepth 100000
set_option linter.unusedVariables false
set_option autoImplicit false
namespace Mine

section
variable {M : Model} {A : Around} {R : GenEnd} {Y : Protocol} {n : Nat} {s₀ : Shared} {c : Code} {fs : List Frame} {s : Shared} {env : Env}
  {K : Flow → Sem PySem.Fin} {H : Value → Sem PySem.Fin} {gd : Bool → Bool} {lv : List Value → List Value}

theorem seg_bindw {α β : Type} {m : Sem α} {f : α → Sem β} {K : β → Sem PySem.Fin}
    (h : wpAny M (A.over c fs) m (fun a s' => Seg M A R Y n s₀ c ((f a).wrap K H gd lv) fs s') (fun x s' => Seg M A R Y n s₀ c (H x) fs s') s) :
    Seg M A R Y n s₀ c ((m >>= f).wrap K H gd lv) fs s := by
  rw [Sem.bind_eq_wrap', Sem.wrap_wrap]
  exact seg_wrap h

theorem seg_If {test : Expr} {body orelse : List Stmt} {pos : Pos}
    (h : wpAny M (A.over c fs) (isTrue test env (eval test env)) (fun b s' => Seg M A R Y n s₀ c ((execs (if b then body else orelse) env).wrap K H gd lv) fs s') (fun x s' => Seg M A R Y n s₀ c (H x) fs s') s) :
    Seg M A R Y n s₀ c ((exec (.If test body orelse pos) env).wrap K H gd lv) fs s := by
  rw [exec_If]
  refine seg_bindw (wpAny_standAt ?_)
  refine seg_bindw (wpAny_mono h (fun b s' h' => ?_) fun _ _ x => x)
  cases b with
  | true => exact h'
  | false => exact h'

theorem seg_For {target iter : Expr} {body orelse : List Stmt} {pos : Pos}
    (h : wpAny M (A.over c fs) (eval iter env) (fun x s₁ => wpAny M (A.over c fs) (pyIter x) (fun it s₂ => ∀ p, Seg M A R Y n s₀ (.forLoop target it body orelse env) (M.den (.forLoop target it body orelse env))
      (.ret (fun r => ((match r with | .ok f => (.pure f : Sem Flow) | .error e => .raise e).onRaise fun (x : Value) => do
        if (← field x 1) == Value.none then unsupported "frame.own-activation:exception-without-traceback"
        setFlight x env.frame).wrap K H gd lv) none (gd false) (lv []) c p [] :: fs) s₂) (fun x s' => Seg M A R Y n s₀ c (H x) fs s') s₁) (fun x s' => Seg M A R Y n s₀ c (H x) fs s') s)
    (hs : ∀ x, foldedSetIterable iter env x = pure x) :
    Seg M A R Y n s₀ c ((exec (.For target iter body orelse pos) env).wrap K H gd lv) fs s := by
  rw [exec_For]
  refine seg_bindw (wpAny_standAt ?_)
  refine seg_bindw (wpAny_mono h (fun x s₁ h₁ => ?_) fun _ _ e => e)
  refine seg_bindw (wpAny_of_eq (hs x) ?_)
  refine seg_bindw (wpAny_standAt ?_)
  refine seg_bindw (wpAny_holding (wpAny_mono h₁ (fun it s₂ h₂ => ?_) fun _ _ e => e))
  exact seg_call h₂
end

section
variable {prog : Program} {w : World} {A : Around} {R : GenEnd} {Y : Protocol} {n : Nat} {s₀ : Shared} {fs : List Frame} {s : Shared} {env : Env}

noncomputable def noted (env : Env) (e : Value) : Sem PySem.Fin := (do noteFrame e env; theTreesLotGoes e : Sem Unit).wrap (fun _ => .raise e) .raise id id

theorem seg_forLoop {target : Expr} {it : Value} {body orelse : List Stmt}
    (h : wpAny (model prog w) (A.over (.forLoop target it body orelse env) fs) (pyNext it) (fun r s' => match r with
      | none => Seg (model prog w) A R Y n s₀ (.forLoop target it body orelse env) (.pure (.again (.block orelse env))) fs s'
      | some v => wpAny (model prog w) (A.over (.forLoop target it body orelse env) fs) (letOwnedTupleGo target it v) (fun _ s₁ =>
          wpAny (model prog w) (A.over (.forLoop target it body orelse env) fs) (assign target env v) (fun _ s₂ =>
            Seg (model prog w) A R Y n s₀ (.forLoop target it body orelse env) ((execs body env).wrap (fun f => match f with
              | .next | .cont => .pure (.again (.forLoop target it body orelse env))
              | .brk => .pure (.done .next)
              | .ret v => .pure (.done (.ret v))) (noted env) id id) fs s₂) (fun _ _ => False) s₁) (fun _ _ => False) s')
      (fun _ _ => False) s) :
    Seg (model prog w) A R Y n s₀ (.forLoop target it body orelse env) ((model prog w).den (.forLoop target it body orelse env)) fs s := by
  show Seg _ A R Y n s₀ _ ((forTurn target it body orelse env).onRaise (fun x => do noteFrame x env; theTreesLotGoes x)) fs s
  unfold forTurn
  rw [Sem.onRaise_eq_wrap]
  refine seg_bindw (wpAny_standAt ?_)
  refine seg_bindw (wpAny_onRaise (wpAny_mono h (fun r s' h' => ?_) fun _ _ q => q.elim))
  cases r with
  | none => exact h'
  | some v =>
    refine seg_bindw (wpAny_mono h' (fun _ s₁ h₁ => ?_) fun _ _ q => q.elim)
    refine seg_bindw (wpAny_mono h₁ (fun _ s₂ h₂ => ?_) fun _ _ q => q.elim)
    rw [Sem.bind_eq_wrap', Sem.wrap_wrap]
    rw [Sem.wrap_congr (execs body env) _ _ (K' := fun f => match f with
            | .next | .cont => .pure (.again (.forLoop target it body orelse env))
            | .brk => .pure (.done .next)
            | .ret v => .pure (.done (.ret v))) (H' := noted env)
        (fun f => by cases f <;> rfl)
        (fun e => by first | exact Sem.bind_eq_wrap _ _ | (show (do noteFrame e env; theTreesLotGoes e : Sem Unit).bind (fun _ => .raise e) = _; unfold noted; rw [Sem.bind_eq_wrap]))]
    exact h₂

theorem seg_block {ss : List Stmt} {K : Flow → Sem PySem.Fin} {c : Code}
    (h : Seg (model prog w) A R Y n s₀ (.block ss env) ((execs ss env).wrap (fun f => .pure (.done f)) (noted env) id id) fs s) :
    Seg (model prog w) A R Y n s₀ (.block ss env) ((model prog w).den (.block ss env)) fs s := by
  show Seg _ A R Y n s₀ _ ((execs ss env).onRaise (fun x => do noteFrame x env; theTreesLotGoes x) >>= fun f => pure (.done f)) fs s
  rw [Sem.onRaise_eq_wrap, Sem.bind_eq_wrap', Sem.wrap_wrap]
  rw [Sem.wrap_congr (execs ss env) _ _ (K' := fun f => .pure (.done f)) (H' := noted env) (fun f => by rfl)
    (fun e => by rw [Sem.bind_eq_wrap, Sem.wrap_wrap]; rfl)]
  exact h
end
end Mine
end

section
open PySem PySem.W PyProof.Rows
open PySem.Builtin PySem.Builtin.Str
set_option Elab.async false
set_option maxRecDepth 100000
set_option linter.unusedVariables false
set_option autoImplicit false
namespace Mine

section
variable {prog : Program} {w : World} {A : Around} {E : Value → Shared → Prop} {s : Shared}

theorem pyNext_genQ {a : Addr} {g n : Nat} {gs : GenState} {P : Nat → Shared → Shared → Prop} {Y : Protocol} {Q : Option Value → Shared → Prop} (hh : A.handled = none)
    (hl : s.heap.NoLimit) (hroom : A.depth < recursionLimit)
    (hg : s.heap.IsGen a g) (hgs : s.gens[g]? = some gs)
    (hgo : gs.Goes (model prog w) A.in1 (fun n s₀ r s₁ => r = .ok (.ret .none) ∧ P n s₀ s₁) Y n (.send .none) (s.setGen g .running))
    (hY : ∀ v s₁ gs', gs'.bare = true → Y (n - 1) (s.setGen g .running) v s₁ (fun r' s'' => match n with
        | 0 => False
        | m + 1 => gs'.Goes (model prog w) A.in1 (fun n s₀ r s₁ => r = .ok (.ret .none) ∧ P n s₀ s₁) Y m r' s'') → Q (some v) (s₁.setGen g gs'))
    (hP : ∀ s₁, P n (s.setGen g .running) s₁ → ∀ h', (∀ b o, s₁.heap.get? b = some o → h'.get? b = some o) → Q none { s₁.setGen g .finished with heap := h' }) :
    wpAny (model prog w) A (pyNext (.ref a)) Q E s := by
  unfold pyNext
  refine wpAny_bind (wpAny_attempt (wpAny_callSpecial?_slot (name := Str.ofString "__next__") hg.typeIs slot_gen_next
    (wpAny_call_entry slot_gen_next hg.typeIs entry_gen_next ?_ (args_gen_next _))))
  show wpAny _ A.in1 (Builtin.Generator.genWake (.ref a) (.send .none)) _ _ s
  unfold Builtin.Generator.genWake
  refine wpAny_bind (wpAny_holding (wpAny_genNumber hg (wpAny_bind (wpAny_genState hgs ?_))))
  cases gs with
  | running => exact hgo.elim
  | finished => exact hgo.elim
  | _ =>
    refine wpAny_bind (wpAny_roomToWake hl hroom ?_)
    show wpAny _ A.in1 (.resume g (.send .none) [] _) _ _ s
    refine wpAny_resumeQ hgs hgo (fun x s₁ hx => ?_) (fun v s₁ gs' hb hv => ?_)
    · obtain ⟨rfl, hp⟩ := hx
      show wpAny _ A.in1 (newExc (.type "StopIteration") [] >>= _) _ _ _
      refine wpAny_bind ?_
      simp only [newExc, newTuple]
      refine wpAny_bind (wpAny_newObj_type ?_ (by size_fits))
      refine wpAny_bind (m := firstArgMember _ _) (wpAny_of_eq (a := Value.none) (by first | rfl | (simp only [firstArgMember]; rfl)) ?_)
      refine wpAny_newObj_type ?_ (by size_fits)
      simp only [raiseNew]
      refine wpAny_bind (wpAny_bind (wpAny_handled ?_))
      first | rw [show A.in1.handled = none from hh] | rw [hh]
      refine wpAny_throw ?_
      refine wpAny_bind (wpAny_isInstance (T := "StopIteration") (b := true) ⟨_, Heap.get?_push_size _ rfl, rfl⟩ isSubtype_stop ?_)
      exact wpAny_pure (hP s₁ hp _ fun b o hb => Heap.get?_push_of_some _ (Heap.get?_push_of_some _ hb))
    · exact wpAny_pure ⟨v, rfl, wpAny_pure (hY v s₁ gs' hb hv)⟩
end

/- all but some places kept -/
structure ExT (T : Addr → Prop) (s s' : Shared) : Prop where
  keep : ∀ b o, ¬ T b → s.heap.get? b = some o → s'.heap.get? b = some o
  os : s'.os = s.os
  toks : s.toks ≤ s'.toks
  bare : AllBare s.gens → AllBare s'.gens
  gens : ∀ (i : Nat) (x : GenState), s.gens[i]? = some x → s'.gens[i]? = some x
theorem ExT.trans {T : Addr → Prop} {s s' s'' : Shared} (x : ExT T s s') (y : ExT T s' s'') : ExT T s s'' :=
  ⟨fun b o h e => y.keep b o h (x.keep b o h e), y.os.trans x.os, Nat.le_trans x.toks y.toks, fun h => y.bare (x.bare h), fun i z e => y.gens i z (x.gens i z e)⟩
theorem ExT.ex {T : Addr → Prop} {s s' : Shared} (e : Ex s s') : ExT T s s' := ⟨fun b o _ => e.keep b o, e.os, e.toks, e.bare, e.gens⟩

section
variable {c : Cx} {b : Blk} {d : Nat} {ρ : Rho}

/- a frame alone, with plain values -/
theorem Fm.lite {env : Env} {s : Shared} {m : Str → Option Value} (hsc : env.scope = b.scope) (hk : b.scope.kind = .function) (hgl : env.globals = mainGlobals) (hbl : env.builtins = builtinsNs)
    (hcl : ∀ x, b.scope.names.lookup x ≠ some .cell ∧ b.scope.names.lookup x ≠ some .free) (hce : env.cells = []) (h1 : Keep c.h1 s.heap) (hL : c.h1.get? env.locals = none) (ht : 1 ≤ s.toks) (hn : s.heap.Ns env.locals m)
    (hsl : ∀ x bd, ρ.lookup x = some bd → ∃ p v, bd = .val p ∧ m x = some v ∧ R c s.heap (fun z => z = env.locals) p v) :
    Fm c b env ρ (fun _ => False) { s with heap := {} } [] (fun z => z = env.locals) s where
  scope := hsc
  kind := hk
  glob := hgl
  blt := hbl
  base := ⟨fun z o g => (by simp [Heap.get?] at g), rfl, Nat.le_refl _, fun x => x, fun _ _ e => e⟩
  h1 := h1
  h1M := fun a e => by subst e; exact hL
  tok := ht
  mo := fun _ h => h.elim
  mlt := fun a e => by subst e; obtain ⟨o, _, _, g, _⟩ := hn; exact ⟨o, g⟩
  molt := fun _ h => h.elim
  mfresh := fun _ _ _ => rfl
  lM := rfl
  lMo := fun x => x
  ns := by
    refine ⟨m, hn, fun x _ => ?_, fun x y a l l' _ e => ?_⟩
    · cases q : ρ.lookup x with
      | none => trivial
      | some bd => obtain ⟨p, v, rfl, e, r⟩ := hsl x bd q; exact ⟨v, e, r⟩
    · obtain ⟨p, v, h, _⟩ := hsl x _ e; cases h
  ownl := fun x l e => by obtain ⟨p, v, h, _⟩ := hsl x _ e; cases h
  cells := fun x hx => by
    rcases hx with hx | hx
    · exact absurd hx (hcl x).1
    · exact absurd hx (hcl x).2
  cdist := by rw [hce]; exact List.Pairwise.nil
  cmo := fun x a _ h => by rw [hce] at h; cases h
  prot := fun p hp => by cases hp

/- the places of a generator over a text -/
structure GP where
  env : Env
  E : Addr
  I : Addr
  x : Str
  t : Tok
noncomputable def GP.T (p : GP) : Addr → Prop := fun z => z = p.env.locals ∨ z = p.E ∨ z = p.I
noncomputable def GP.At (p : GP) (c : Cx) (j : Nat) (s : Shared) : Prop :=
  ∃ m old, s.heap.Ns p.env.locals m ∧ m "escape" = some (.bool false) ∧ IsEnum s.heap p.E p.I (j : Int) old ∧ s.heap.IsStrIter p.I (strIterType p.x) p.x p.t j ∧ Keep c.h1 s.heap ∧ 1 ≤ s.toks
structure GP.Ok (p : GP) (c : Cx) (b : Blk) : Prop where
  sc : p.env.scope = b.scope
  kind : b.scope.kind = .function
  gl : p.env.globals = mainGlobals
  bl : p.env.builtins = builtinsNs
  nocell : ∀ x, b.scope.names.lookup x ≠ some .cell ∧ b.scope.names.lookup x ≠ some .free
  cells : p.env.cells = []
  L1 : c.h1.get? p.env.locals = none
  EL : p.E ≠ p.env.locals
  IL : p.I ≠ p.env.locals
  EI : p.E ≠ p.I
  E1 : c.h1.get? p.E = none
  I1 : c.h1.get? p.I = none
  loc : ∀ x, x = ("escape" : Str) ∨ x = ("pos" : Str) ∨ x = ("ch" : Str) → b.scope.names.lookup x = some .local
  co : b.scope.isCoroutine = false

theorem draws {A : Around} (hh : A.handled = none) (I : Addr) (x : Str) (t : Tok) : Draws c.prog c.w A I [I] x.cps.size (fun i v => ∃ ch u, x.cps[i]? = some ch ∧ v = .str ⟨#[ch]⟩ u) (fun i h => h.IsStrIter I (strIterType x) x t i) := by
  unfold strIterType
  split
  · exact Draws.strAscii hh I x t
  · exact Draws.strWide hh I x t

noncomputable def GP.Y (p : GP) (c : Cx) : Protocol := fun n s₀ v s₁ kap => ∃ T' tk tk' ch, p.x.cps[p.x.cps.size - 1 - n]? = some ch ∧ v = .ref T' ∧ s₁.heap.get? T' = some (tupObj [.int ((p.x.cps.size - 1 - n : Nat) : Int) tk, .str ⟨#[ch]⟩ tk']) ∧
  s₀.heap.get? T' = none ∧ p.At c (p.x.cps.size - n) s₁ ∧ ExT p.T s₀ s₁ ∧ ∀ s'', p.At c (p.x.cps.size - n) s'' → kap (.send .none) s''
noncomputable def GP.P (p : GP) : Nat → Shared → Shared → Prop := fun n s₀ s₁ => n = 0 ∧ ExT p.T s₀ s₁
noncomputable def GP.R (p : GP) : GenEnd := fun n s₀ r s₁ => r = .ok (.ret .none) ∧ p.P n s₀ s₁
end
end Mine
end

section
open PySem PySem.W PyProof.Rows
open PySem.Builtin PySem.Builtin.Str
set_option Elab.async false
set_option maxRecDepth 100000
set_option linter.unusedVariables false
set_option autoImplicit false
namespace Mine

section
variable {c : Cx} {b : Blk} {d : Nat} {ρ : Rho}

noncomputable def GP.Fin (p : GP) (c : Cx) (s : Shared) : Prop := ∃ m, s.heap.Ns p.env.locals m ∧ m "escape" = some (.bool false) ∧ Keep c.h1 s.heap ∧ 1 ≤ s.toks

noncomputable abbrev litE : Rho := [(("escape" : Str), .val (.bool false))]
theorem GP.fm {p : GP} (ok : p.Ok c b) {s : Shared} {m : Str → Option Value} (hn : s.heap.Ns p.env.locals m) (he : m "escape" = some (.bool false)) (h1 : Keep c.h1 s.heap) (ht : 1 ≤ s.toks) :
    Fm c b p.env litE (fun _ => False) { s with heap := {} } [] (fun z => z = p.env.locals) s :=
  Fm.lite ok.sc ok.kind ok.gl ok.bl ok.nocell ok.cells h1 ok.L1 ht hn fun x bd hx => by
    rw [List.lookup_cons] at hx
    by_cases e : x = ("escape" : Str)
    · subst e; simp at hx; subst hx; exact ⟨_, _, rfl, he, .bool _⟩
    · rw [beq_eq_false_iff_ne.mpr e] at hx; cases hx

theorem extT_extBut {p : GP} {s : Shared} {h' : Heap} {k : Nat} (hk : s.toks ≤ k) (h : ∀ z o, ¬ p.T z → s.heap.get? z = some o → h'.get? z = some o) : ExT p.T s { s with heap := h', toks := k } :=
  ⟨h, rfl, hk, fun x => x, fun _ _ e => e⟩

theorem GP.escape_of {p : GP} {s₀ s : Shared} {ρ' : Rho} {Mo M : Mut} {K : List (Addr × Obj)} (ok : p.Ok c b) (F : Fm c b p.env ρ' Mo s₀ K M s) (he : ρ'.lookup ("escape" : Str) = some (.val (.bool false))) : ∃ m, s.heap.Ns p.env.locals m ∧ m "escape" = some (.bool false) := by
  obtain ⟨m, hn, hs, _⟩ := F.ns
  have := hs "escape" (ok.loc _ (.inl rfl))
  rw [he] at this
  obtain ⟨v, e, r⟩ := this
  cases r
  exact ⟨m, hn, e⟩

theorem seg_loop {p : GP} (ok : p.Ok c b) (hb : ∀ (i ch : Nat), p.x.cps[i]? = some ch → ch ≠ 92) {A : Around} {fs : List PySem.Frame} {p1 p2 p3 p4 p5 p6 p7 p8 p9 p10 p11 p12 p13 p14 : Pos} {k k2 : Nat} {B1 B2 : List Stmt} {CF : Code}
    (hCF : CF = .forLoop (.Tuple [.Name "pos" p1, .Name "ch" p2] k p3) (.ref p.E) [.If (.Name "escape" p4) B1 [.If (.Compare (.Name "ch" p5) [.Eq] [.Constant (.str "\\") 0 p6] p7) B2 [.Expr (.Yield (some (.Tuple [.Name "pos" p8, .Name "ch" p9] k2 p10)) p11) p12] p13] p14] [] p.env)
    (hR : Room 0 (A.over CF fs)) (hfs : splitAtGen fs = none) (hfg : fs.any Frame.guarded = false)
    (hend : ∀ s₀ s, ExT p.T s₀ s → p.Fin c s → Seg (model c.prog c.w) A p.R (p.Y c) 0 s₀ (.block [] p.env) (leafOf (.ok .next)) fs s) :
    ∀ (n j : Nat) (s₀ s : Shared), n + j = p.x.cps.size → ExT p.T s₀ s → p.At c j s → Seg (model c.prog c.w) A p.R (p.Y c) n s₀ CF ((model c.prog c.w).den CF) fs s := by
  subst hCF
  have hD : ∀ {A' : Around}, A'.handled = none → Draws c.prog c.w A' p.I [p.I] p.x.cps.size (fun i v => ∃ ch u, p.x.cps[i]? = some ch ∧ v = .str ⟨#[ch]⟩ u) (fun i h => h.IsStrIter p.I (strIterType p.x) p.x p.t i) := fun hh => draws hh _ _ _
  intro n
  induction n with
  | zero =>
    intro j s₀ s hj hs₀ hat
    obtain ⟨m, old, hn, he, hen, hit, h1, ht⟩ := hat
    refine seg_forLoop ?_
    have : j = p.x.cps.size := by lia
    subst this
    refine wpAny_pyNext_enum_endD (hD hR.handled) hen hit fun h' hx => ?_
    refine seg_again rfl (seg_block (K := fun _ => .raise .none) (c := .block [] p.env) ?_)
    refine hend s₀ _ (hs₀.trans (extT_extBut (k := s.toks) (Nat.le_refl _) fun z o hz g => hx z o (fun e => hz (.inr (.inr e))) g)) ⟨m, ?_, he, fun z o g => hx z o ?_ (h1 z o g), ht⟩
    · exact hn.at fun o g => hx _ o ok.IL.symm g
    · rintro rfl; rw [ok.I1] at g; cases g
  | succ n ih =>
    intro j s₀ s hj hs₀ hat
    obtain ⟨m, old, hn, he, hen, hit, h1, ht⟩ := hat
    refine seg_forLoop ?_
    refine wpAny_toks (wpAny_pyNext_enum_itemD (hD hR.handled) hen hit (by lia) ok.EI (by simpa using ok.EI) fun x h' tk hP ho hst htup hsz hk htk => ?_)
    obtain ⟨ch, u, hch, rfl⟩ := hP
    refine wpAny_letOwnedTupleGo_enum ho fun h2 he2 hs2 => ?_
    have hEs : p.E < s.heap.objs.size := Heap.lt_size hen
    have hLs : p.env.locals < s.heap.objs.size := hn.lt
    have hIs : p.I < s.heap.objs.size := by obtain ⟨o, g, _⟩ := hit; exact Heap.lt_size g
    have hk2 : ∀ z o, z ≠ p.E → z ≠ p.I → s.heap.get? z = some o → h2.get? z = some o := fun z o hzE hzI g => (hs2.2 z hzE).trans (hk z o hzE hzI g)
    have hn2 : h2.Ns p.env.locals m := hn.at fun o g => hk2 _ o ok.EL.symm ok.IL.symm g
    have h12 : Keep c.h1 h2 := fun z o g => hk2 z o (by rintro rfl; rw [ok.E1] at g; cases g) (by rintro rfl; rw [ok.I1] at g; cases g) (h1 z o g)
    have htup2 : h2.get? s.heap.objs.size = some (tupObj [.int j tk, .str ⟨#[ch]⟩ u]) := (hs2.2 _ (Nat.ne_of_gt hEs)).trans htup
    have hit2 : h2.IsStrIter p.I (strIterType p.x) p.x p.t (j + 1) := by obtain ⟨o, g, r⟩ := hst; exact ⟨o, (hs2.2 _ ok.EI.symm).trans g, r⟩
    have F2 := GP.fm (s := { s with heap := h2, toks := tk + 1 }) ok hn2 he h12 (Nat.le_add_left _ _)
    have r2 : R c h2 (fun z => z = p.env.locals) (.tup [.int j, .str [ch]]) (.ref s.heap.objs.size) := .tup (Nat.ne_of_gt hLs) htup2 (.cons (.int _ _) (.cons (.str [ch] u) .nil))
    have x02 : ExT p.T s₀ { s with heap := h2, toks := tk + 1 } := hs₀.trans (extT_extBut htk fun z o hz g => hk2 z o (fun e => hz (.inr (.inl e))) (fun e => hz (.inr (.inr e))) g)
    have st1 : storable b "pos" = true := by unfold storable; rw [ok.loc _ (.inr (.inl rfl))]
    have st2 : storable b "ch" = true := by unfold storable; rw [ok.loc _ (.inr (.inr rfl))]
    have rd : ∀ x, x = ("escape" : Str) ∨ x = ("pos" : Str) ∨ x = ("ch" : Str) → readable b x = true := fun x hx => by
      unfold readable; rw [ok.loc x hx]
      rcases hx with rfl | rfl | rfl <;> rfl
    have hbind : Bind c b 0 (.Tuple [.Name "pos" p1, .Name "ch" p2] k p3) (.tup [.int j, .str [ch]]) litE (rset (rset litE "pos" (.val (.int j))) "ch" (.val (.str [ch]))) :=
      bind_tup (binds_cons (bind_name st1) (binds_cons (bind_name st2) binds_nil)) rfl rfl
    refine hbind.run _ _ _ _ _ _ _ _ _ hR F2 r2 fun s3 F3 hp3 hst3 => ?_
    generalize hρ : rset (rset litE "pos" (.val (.int j))) "ch" (.val (.str [ch])) = ρ3 at F3
    have le : ρ3.lookup ("escape" : Str) = some (.val (.bool false)) := by rw [← hρ]; rfl
    have lp : ρ3.lookup ("pos" : Str) = some (.val (.int j)) := by rw [← hρ]; rfl
    have lc : ρ3.lookup ("ch" : Str) = some (.val (.str [ch])) := by rw [← hρ]; rfl
    have k3 : ∀ z o, z ≠ p.env.locals → h2.get? z = some o → s3.heap.get? z = some o := fun z o hz g => hst3 z o g hz (.inr fun x e => by rw [ok.cells] at e; cases e)
    have x23 : ExT p.T { s with heap := h2, toks := tk + 1 } s3 := ⟨fun z o hz g => k3 z o (fun e => hz (.inl e)) g, F3.base.os, F3.base.toks, F3.base.bare, F3.base.gens⟩
    refine seg_execs_cons (seg_If (wpAny_mono ((test_plain (t := false) (ev_name le (rd _ (.inl rfl))) (tr_bool false) (fun _ _ => rfl)).run _ _ _ _ _ _ _ _ hR F3 fun s4 e4 => ?_) (fun _ _ q => q) fun _ _ q => q.elim))
    have F4 := F3.ex e4
    have hne : ([ch] == [92]) = false := by simpa using hb j ch hch
    have hbs : Eval c b 0 (.Constant (.str "\\") 0 p6) ρ3 (.str [92]) := by
      have h : (Str.ofString "\\").cps.toList = [92] := by first | rfl | kernel_rfl | decide
      rw [← h]; exact ev_str
    refine seg_execs_cons (seg_If (wpAny_mono ((test_cmp (t := ([ch] == [92])) (ev_name lc (rd _ (.inr (.inr rfl)))) hbs (op_eq_str _ _) rfl).run _ _ _ _ _ _ _ _ hR F4 fun s5 e5 => ?_) (fun _ _ q => q) fun _ _ q => q.elim))
    rw [hne]
    have F5 := F4.ex e5
    refine seg_execs_cons (seg_Expr_Yield hfs rfl hfg ?_ (by rw [ok.sc]; exact ok.co) (by unfold interactive; rw [ok.sc, ok.kind]; rfl))
    have hev : Evals c b 0 [.Name "pos" p8, .Name "ch" p9] ρ3 [.int j, .str [ch]] := evs_cons (ev_name lp (rd _ (.inr (.inl rfl)))) (evs_cons (ev_name lc (rd _ (.inr (.inr rfl)))) evs_nil rfl) rfl
    refine wpAny_mono (E := fun _ _ => False) (Tuple_ (hev.run _ _ _ _ _ _ _ _ _ hR F5 fun vs s6 e6 r6 hvl => wpAny_newTuple ?_ (by rw [hvl]; exact (by decide : (2 : Nat) ≤ 16777216)))) (fun _ _ q => q) fun _ _ q => q.elim
    intro kap hkap
    have e36 := (e4.trans e5).trans e6
    have x06 := (x02.trans x23).trans (ExT.ex (e36.trans (Ex.push s6 (tupObj vs))))
    cases r6 with
    | cons r61 r6 =>
      cases r6 with
      | cons r62 r6 =>
        cases r6
        cases r61 with
        | int _ tk1 =>
          cases r62 with
          | str _ tk2 =>
            have hj1 : p.x.cps.size - 1 - n = j := by lia
            have hj2 : p.x.cps.size - n = j + 1 := by lia
            have at7 : p.At c (j + 1) { s6 with heap := s6.heap.push (tupObj [.int j tk1, .str (txt [ch]) tk2]) } := by
              obtain ⟨m7, hn7, he7⟩ := GP.escape_of ok ((F3.ex e36).ex (Ex.push s6 (tupObj [.int j tk1, .str (txt [ch]) tk2]))) le
              refine ⟨m7, .str ⟨#[ch]⟩ u, hn7, he7, ?_, ?_, ((F3.ex e36).ex (Ex.push s6 _)).h1, ((F3.ex e36).ex (Ex.push s6 _)).tok⟩
              · have : ((j + 1 : Nat) : Int) = (j : Int) + 1 := by push_cast; rfl
                rw [this]
                exact (e36.trans (Ex.push s6 _)).keep _ _ (k3 _ _ ok.EL he2)
              · obtain ⟨o, g, r⟩ := hit2
                exact ⟨o, (e36.trans (Ex.push s6 _)).keep _ _ (k3 _ _ ok.IL g), r⟩
            refine ⟨s6.heap.objs.size, tk1, tk2, ch, by rw [hj1]; exact hch, rfl, ?_, ?_, by rw [hj2]; exact at7, x06, fun s'' hat => hkap .none s'' ?_⟩
            · rw [hj1]; exact Heap.get?_push_size _ rfl
            · cases q : s₀.heap.get? s6.heap.objs.size with
              | none => rfl
              | some o =>
                exfalso
                by_cases hz : p.T s6.heap.objs.size
                · have lt3 : ∀ z, p.T z → ∃ o, s6.heap.get? z = some o := fun z hz => by
                    rcases hz with rfl | rfl | rfl
                    · obtain ⟨m7, ⟨o, _, _, g, _⟩, _⟩ := GP.escape_of ok (F3.ex e36) le; exact ⟨o, g⟩
                    · exact ⟨_, e36.keep _ _ (k3 _ _ ok.EL he2)⟩
                    · obtain ⟨o, g, r⟩ := hit2; exact ⟨o, e36.keep _ _ (k3 _ _ ok.IL g)⟩
                  obtain ⟨o', g'⟩ := lt3 _ hz
                  exact Nat.lt_irrefl _ (Heap.lt_size g')
                · have := ((x02.trans x23).trans (ExT.ex e36)).keep _ _ hz q
                  exact Nat.lt_irrefl _ (Heap.lt_size this)
            · rw [hj2] at hat
              exact seg_again rfl (ih (j + 1) s'' s'' (by lia) (ExT.ex (Ex.refl s'')) hat)
end
end Mine
end

section
open PySem PySem.W PyProof.Rows
open PySem.Builtin PySem.Builtin.Str
set_option Elab.async false
set_option maxRecDepth 100000
set_option linter.unusedVariables false
set_option autoImplicit false
namespace Mine

/- the text of the generator -/
noncomputable def EscBody (body : List Stmt) : Prop := ∃ (q1 q2 q3 q4 q5 q6 q7 q8 q9 q10 q11 q12 p1 p2 p3 p4 p5 p6 p7 p8 p9 p10 p11 p12 p13 p14 : Pos) (k k2 : Nat) (B1 B2 B3 : List Stmt), body =
  [.Assign [.Name "pos" q1] (.Constant (.int 0) 0 q2) q3, .Assign [.Name "escape" q4] (.Constant (.bool false) 0 q5) q6,
   .For (.Tuple [.Name "pos" p1, .Name "ch" p2] k p3) (.Call (.Name "enumerate" q7) [.Name "addr" q8] [] q9)
     [.If (.Name "escape" p4) B1 [.If (.Compare (.Name "ch" p5) [.Eq] [.Constant (.str "\\") 0 p6] p7) B2 [.Expr (.Yield (some (.Tuple [.Name "pos" p8, .Name "ch" p9] k2 p10)) p11) p12] p13] p14] [] q10,
   .If (.Name "escape" q11) B3 [] q12]

/- the generator's block -/
structure EscBlk (c : Cx) (b : Blk) : Prop where
  kind : b.scope.kind = .function
  nocell : ∀ p ∈ b.scope.names, p.2 ≠ .cell ∧ p.2 ≠ .free
  loc : ∀ x, x = ("escape" : Str) ∨ x = ("pos" : Str) ∨ x = ("ch" : Str) ∨ x = ("addr" : Str) → b.scope.names.lookup x = some .local
  co : b.scope.isCoroutine = false
  gl : isGlob b "enumerate" = true
  en : GlobV c "enumerate" (.type "enumerate")

theorem EscBlk.nolook {c : Cx} {b : Blk} (h : EscBlk c b) (x : Str) : b.scope.names.lookup x ≠ some .cell ∧ b.scope.names.lookup x ≠ some .free :=
  ⟨fun e => (h.nocell _ (mem_of_lookup e)).1 rfl, fun e => (h.nocell _ (mem_of_lookup e)).2 rfl⟩

structure EnvOk (c : Cx) (b : Blk) (env : Env) : Prop where
  sc : env.scope = b.scope
  gl : env.globals = mainGlobals
  bl : env.builtins = builtinsNs
  cells : env.cells = []
  L1 : c.h1.get? env.locals = none

section
variable {c : Cx} {b : Blk} {d : Nat} {ρ : Rho}

theorem room_over_func {A : Around} {body : List Stmt} {env : Env} (h : Room 1 A) : Room 0 (A.over (.func body env) []) := by
  refine ⟨h.handled, ?_, ?_⟩
  · have := h.depth
    show A.depth + 0 + 1 + 8 * 0 < recursionLimit
    lia
  · have := h.units
    show A.units + 0 + 3 + 60 * 0 + 100 < cLine
    lia
theorem room_over_for {A : Around} {body : List Stmt} {env : Env} {t : Expr} {it : Value} {bd oe : List Stmt} {K : Result → Sem PySem.Fin} {g : Bool} {l : List Value} {p : Pos} {kp : List Value} (h : Room 1 A) :
    Room 0 (A.over (.forLoop t it bd oe env) [.ret K none g l (.func body env) p []]) := by
  refine ⟨h.handled, ?_, ?_⟩
  · have := h.depth
    show A.depth + (1 + 0) + 0 + 8 * 0 < recursionLimit
    lia
  · have := h.units
    show A.units + (3 + 0) + 0 + 60 * 0 + 100 < cLine
    lia

theorem seg_first {body : List Stmt} (hbody : EscBody body) (hblk : EscBlk c b) {env : Env} (hen : EnvOk c b env) {A : Around} (hA : Room 1 A) {s : Shared} {m : Str → Option Value} {x : Str} {t : Tok} (hn : s.heap.Ns env.locals m) (hm : m "addr" = some (.str x t))
    (h1 : Keep c.h1 s.heap) (htk : 1 ≤ s.toks) (hb : ∀ (i ch : Nat), x.cps[i]? = some ch → ch ≠ 92) :
    Seg (model c.prog c.w) A (GP.R ⟨env, s.heap.objs.size + 1, s.heap.objs.size, x, t⟩) (GP.Y ⟨env, s.heap.objs.size + 1, s.heap.objs.size, x, t⟩ c) x.cps.size s (.func body env) ((model c.prog c.w).den (.func body env)) [] s := by
  obtain ⟨q1, q2, q3, q4, q5, q6, q7, q8, q9, q10, q11, q12, p1, p2, p3, p4, p5, p6, p7, p8, p9, p10, p11, p12, p13, p14, k, k2, B1, B2, B3, rfl⟩ := hbody
  generalize hp : (⟨env, s.heap.objs.size + 1, s.heap.objs.size, x, t⟩ : GP) = p
  have pe : p.env = env := by rw [← hp]
  have pE : p.E = s.heap.objs.size + 1 := by rw [← hp]
  have pI : p.I = s.heap.objs.size := by rw [← hp]
  have px : p.x = x := by rw [← hp]
  have pt : p.t = t := by rw [← hp]
  have h1n : ∀ z, s.heap.objs.size ≤ z → c.h1.get? z = none := fun z hz => by
    cases q : c.h1.get? z with
    | none => rfl
    | some o => exact absurd (Nat.lt_of_lt_of_le (Heap.lt_size (h1 _ _ q)) hz) (Nat.lt_irrefl _)
  have hLs : env.locals < s.heap.objs.size := hn.lt
  have ok : p.Ok c b := {
    sc := by rw [pe]; exact hen.sc
    kind := hblk.kind
    gl := by rw [pe]; exact hen.gl
    bl := by rw [pe]; exact hen.bl
    nocell := hblk.nolook
    cells := by rw [pe]; exact hen.cells
    L1 := by rw [pe]; exact hen.L1
    EL := by rw [pe, pE]; exact Nat.ne_of_gt (Nat.lt_succ_of_lt hLs)
    IL := by rw [pe, pI]; exact Nat.ne_of_gt hLs
    EI := by rw [pE, pI]; exact Nat.succ_ne_self _
    E1 := by rw [pE]; exact h1n _ (Nat.le_succ _)
    I1 := by rw [pI]; exact h1n _ (Nat.le_refl _)
    loc := fun y hy => hblk.loc y (by rcases hy with h | h | h <;> simp [h])
    co := hblk.co }
  have kd : env.scope.kind = .function := by rw [hen.sc]; exact hblk.kind
  have kof : ∀ y, env.kindOf y = b.scope.names.lookup y := fun y => by unfold Env.kindOf; rw [hen.sc]
  have hpl : (env.scope.kind == .class || (env.scope.kind == .module && env.locals != env.globals)) = false := by rw [kd]; rfl
  have hRf := room_over_func (body := [.Assign [.Name "pos" q1] (.Constant (.int 0) 0 q2) q3, .Assign [.Name "escape" q4] (.Constant (.bool false) 0 q5) q6,
   .For (.Tuple [.Name "pos" p1, .Name "ch" p2] k p3) (.Call (.Name "enumerate" q7) [.Name "addr" q8] [] q9)
     [.If (.Name "escape" p4) B1 [.If (.Compare (.Name "ch" p5) [.Eq] [.Constant (.str "\\") 0 p6] p7) B2 [.Expr (.Yield (some (.Tuple [.Name "pos" p8, .Name "ch" p9] k2 p10)) p11) p12] p13] p14] [] q10,
   .If (.Name "escape" q11) B3 [] q12]) (env := env) hA
  refine seg_func (seg_execs_cons (seg_wrap (wpAny_mono (E := fun _ _ => False) (wpAny_Assign_Name (wpAny_Constant_int (wpAny_storeName_local (by rw [kof]; exact hblk.loc _ (.inr (.inl rfl))) hn (fun h2 hn2 hs2 => ?_) hpl))) (fun _ _ q => q) fun _ _ q => q.elim)))
  refine seg_execs_cons (seg_wrap (wpAny_mono (E := fun _ _ => False) (wpAny_Assign_Name (Constant_bool (wpAny_storeName_local (by rw [kof]; exact hblk.loc _ (.inl rfl)) hn2 (fun h3 hn3 hs3 => ?_) hpl))) (fun _ _ q => q) fun _ _ q => q.elim))
  have hs23 : Heap.SameBut env.locals s.heap h3 := hs2.trans hs3
  have hesc : (fun y => if y = Str.ofString "escape" then some (Value.bool false) else (fun y => if y = Str.ofString "pos" then some (Value.int 0 s.toks) else m y) y) (Str.ofString "escape") = some (.bool false) := rfl
  have hadr : (fun y => if y = Str.ofString "escape" then some (Value.bool false) else (fun y => if y = Str.ofString "pos" then some (Value.int 0 s.toks) else m y) y) (Str.ofString "addr") = some (.str x t) := by
    show (if Str.ofString "addr" = Str.ofString "escape" then _ else if Str.ofString "addr" = Str.ofString "pos" then _ else _) = _
    rw [if_neg (by decide), if_neg (by decide)]; exact hm
  generalize (fun y => if y = Str.ofString "escape" then some (Value.bool false) else (fun y => if y = Str.ofString "pos" then some (Value.int 0 s.toks) else m y) y) = m3 at hn3 hesc hadr
  have h13 : Keep c.h1 h3 := fun z o g => (hs23.2 z (by rintro rfl; rw [hen.L1] at g; cases g)).trans (h1 z o g)
  have hz3 : h3.objs.size = s.heap.objs.size := hs23.1
  have hFm : ∀ tk, 1 ≤ tk → Fm c b env [(("addr" : Str), .val (.str x.cps.toList))] (fun _ => False) { s with heap := {}, toks := tk } [] (fun z => z = env.locals) { s with heap := h3, toks := tk } := fun tk htk =>
    Fm.lite (s := { s with heap := h3, toks := tk }) hen.sc hblk.kind hen.gl hen.bl hblk.nolook hen.cells h13 hen.L1 htk hn3 fun y bd hy => by
      rw [List.lookup_cons] at hy
      by_cases e : y = ("addr" : Str)
      · subst e; simp at hy; subst hy; exact ⟨_, _, rfl, hadr, .str x.cps.toList t⟩
      · rw [beq_eq_false_iff_ne.mpr e] at hy; cases hy
  refine seg_execs_cons (seg_For (hs := fun _ => rfl) (wpAny_mono (E := fun _ _ => False) (?_ : W c (A.over (.func _ env) []) (eval (.Call (.Name "enumerate" q7) [.Name "addr" q8] [] q9) env) _ _) (fun _ _ q => q) fun _ _ q => q.elim))
  have F3 := hFm (s.toks + 1 + 1 + 1) (by lia)
  have hgl := hblk.gl
  simp only [isGlob, Bool.and_eq_true, beq_iff_eq, Bool.not_eq_true'] at hgl
  refine Call_Name rfl (wpAny_Name (F3.loadG hgl.1 hblk.en ?_) hgl.2)
  refine PyProof.Rows.callWith_type rfl (Calls.evalArgs_plain ?_)
  refine args_cons (pos := q9) (env := env) (rest := []) (e := .Name "addr" q8) (wpAny_Name (wpAny_loadName_local kd (by rw [kof]; exact hblk.loc _ (.inr (.inr (.inr rfl)))) hn3 hadr ?_) (by rfl))
  refine args_nil ?_
  refine call_enumerate_str fun h4 hen4 hit4 hsz4 hk4 => ?_
  replace hen4 : IsEnum h4 (h3.objs.size + 1) h3.objs.size 0 .none := hen4
  replace hit4 : h4.IsStrIter h3.objs.size (strIterType x) x t 0 := hit4
  replace hk4 : ∀ b o, h3.get? b = some o → h4.get? b = some o := hk4
  refine wpAny_pyIter_enum hen4 fun pp => ?_
  have hn4 : h4.Ns env.locals m3 := hn3.at fun o g => hk4 _ o g
  have h14 : Keep c.h1 h4 := fun z o g => hk4 z o (h13 z o g)
  rw [hz3] at hen4 hit4
  show Seg _ A p.R (p.Y c) _ s (.forLoop _ (.ref (h3.objs.size + 1)) _ _ env) _ _ _
  rw [hz3, ← pE]
  have hat : p.At c 0 { s with heap := h4, toks := s.toks + 1 + 1 + 1 } := by
    refine ⟨m3, .none, by rw [pe]; exact hn4, hesc, ?_, ?_, h14, by show 1 ≤ s.toks + 1 + 1 + 1; lia⟩
    · rw [pE, pI]; exact hen4
    · rw [px, pI, pt]; exact hit4
  have hext : ExT p.T s { s with heap := h4, toks := s.toks + 1 + 1 + 1 } :=
    extT_extBut (by lia) fun z o hz g => hk4 z o ((hs23.2 z (fun e => hz (.inl (by rw [pe]; exact e)))).trans g)
  rw [pE]
  have hbx : ∀ (i ch : Nat), p.x.cps[i]? = some ch → ch ≠ 92 := by rw [px]; exact hb
  have hNx : x.cps.size + 0 = p.x.cps.size := by rw [px]; rfl
  clear pe pE pI px pt
  subst hp
  refine seg_loop (A := A) ok hbx rfl (room_over_for (kp := []) hA) rfl rfl (fun s₀ s' hx hf => ?_) x.cps.size 0 s _ hNx hext hat
  refine seg_leaf (.ok .next) ?_
  obtain ⟨m', hn', he', h1', ht'⟩ := hf
  have F' := GP.fm ok hn' he' h1' ht'
  have rd : readable b ("escape" : Str) = true := by unfold readable; rw [hblk.loc _ (.inl rfl)]; rfl
  refine seg_execs_cons (seg_If (wpAny_mono (E := fun _ _ => False) ((test_plain (t := false) (ev_name (ρ := litE) rfl rd) (tr_bool false) (fun _ _ => rfl)).run _ _ _ _ _ _ _ _ hRf F' fun s5 e5 => ?_) (fun _ _ q => q) fun _ _ q => q.elim))
  exact seg_end (.ok (.ret .none)) ⟨rfl, rfl, hx.trans (ExT.ex e5)⟩
end
end Mine
end

section
open PySem PySem.W PyProof.Rows
open PySem.Builtin PySem.Builtin.Str
set_option Elab.async false
set_option maxRecDepth 100000
set_option linter.unusedVariables false
set_option autoImplicit false
namespace Mine

section
variable {c : Cx} {b : Blk} {d : Nat} {ρ : Rho}

/- a for's run, whatever it runs over -/
inductive ForRun (c : Cx) (b : Blk) (d : Nat) (target : Expr) (body orelse : List Stmt) : List PV → Rho → Fl → Rho → Prop
  | nil {ρ ρ' : Rho} {f : Fl} : Exec c b d orelse ρ f ρ' → ForRun c b d target body orelse [] ρ f ρ'
  | cons {p : PV} {ps : List PV} {ρ ρ₀ ρ₁ ρ' : Rho} {f : Fl} : Bind c b d target p ρ ρ₀ → Exec c b d body ρ₀ .next ρ₁ → ForRun c b d target body orelse ps ρ₁ f ρ' → ForRun c b d target body orelse (p :: ps) ρ f ρ'
  | ret {p q : PV} {ps : List PV} {ρ ρ₀ ρ' : Rho} : Bind c b d target p ρ ρ₀ → Exec c b d body ρ₀ (.ret q) ρ' → ForRun c b d target body orelse (p :: ps) ρ (.ret q) ρ'
  | brk {p : PV} {ps : List PV} {ρ ρ₀ ρ' : Rho} : Bind c b d target p ρ ρ₀ → Exec c b d body ρ₀ .brk ρ' → ForRun c b d target body orelse (p :: ps) ρ .next ρ'

/- some places and one generator's state have changed -/
structure Chg (T : Mut) (g : Nat) (s s' : Shared) : Prop where
  keep : ∀ z o, ¬ T z → s.heap.get? z = some o → s'.heap.get? z = some o
  os : s'.os = s.os
  toks : s.toks ≤ s'.toks
  bare : AllBare s.gens → AllBare s'.gens
  gens : ∀ (i : Nat) (x : GenState), i ≠ g → s.gens[i]? = some x → s'.gens[i]? = some x

theorem Fm.moveT {env : Env} {Mo M T N D : Mut} {K : List (Addr × Obj)} {s₀ s s' : Shared} {g : Nat} (F : Fm c b env ρ Mo s₀ K M s) (x : Chg T g s s') (hT : ∀ z, T z → M z ∧ ¬ Mo z ∧ ∃ o, s.heap.get? z = some o ∧ Held env.locals z o)
    (hD : ∀ z, D z → T z) (hl : ∀ z, T z → ¬ D z → ∃ o, s'.heap.get? z = some o) (hN : ∀ z, N z → s.heap.get? z = none ∧ ∃ o, s'.heap.get? z = some o) (hK : ∀ p ∈ K, ¬ T p.1) (hg : s₀.gens[g]? = none) :
    Fm c b env ρ Mo s₀ K (fun z => (M z ∨ N z) ∧ ¬ D z) s' := by
  have hTL : ¬ T env.locals := fun h => (hT _ h).2.2.elim fun o ho => ho.2.1 rfl
  have hTc : ∀ a ov, s.heap.IsCell a ov → ¬ T a := fun a ov hc h => by
    obtain ⟨_, _, o, g, hd⟩ := hT a h
    obtain ⟨o', g', gd⟩ := hc
    rw [g] at g'; cases g'; exact hd.2.1 _ gd
  have hTl : ∀ a vs n, s.heap.get? a = some (listObj vs n) → ¬ T a := fun a vs n hg h => by
    obtain ⟨_, _, o, g, hd⟩ := hT a h
    rw [g] at hg; cases hg; exact hd.2.2 _ _ rfl
  have key : ∀ z o, s.heap.get? z = some o → ((M z ∨ N z) ∧ ¬ D z) → M z := fun z o hz hm => by
    rcases hm.1 with h | h
    · exact h
    · rw [(hN z h).1] at hz; cases hz
  have slot : ∀ bd ov, Slot c s.heap Mo M bd ov → Slot c s'.heap Mo (fun z => (M z ∨ N z) ∧ ¬ D z) bd ov := fun bd ov h =>
    h.mono (fun z o hz e => x.keep z o (fun q => hz (hT z q).1) e) key fun l a o' e1 e2 m mo g => by
      have hna : ¬ T a := by
        subst e1
        obtain ⟨z, vs, n, e, _, _, g', _⟩ := h
        rw [e2] at e; cases e
        exact hTl _ _ _ g'
      exact ⟨⟨.inl m, fun q => hna (hD _ q)⟩, x.keep _ _ hna g⟩
  obtain ⟨m, hns, h2, h3⟩ := F.ns
  have h1n : ∀ z, s.heap.get? z = none → c.h1.get? z = none := fun z hz => by
    cases q : c.h1.get? z with
    | none => rfl
    | some o => rw [F.h1 _ _ q] at hz; cases hz
  exact {
    scope := F.scope, kind := F.kind, glob := F.glob, blt := F.blt
    base := ⟨fun z o e => x.keep z o (fun q => F.ne_old (hT z q).1 (hT z q).2.1 e rfl) (F.base.keep z o e), x.os.trans F.base.os, Nat.le_trans F.base.toks x.toks,
      fun y => x.bare (F.base.bare y), fun i y e => x.gens i y (by rintro rfl; rw [hg] at e; cases e) (F.base.gens i y e)⟩
    h1 := fun z o e => x.keep z o (fun q => by rw [F.h1M _ (hT z q).1] at e; cases e) (F.h1 z o e)
    h1M := fun a ha => ha.1.elim (F.h1M a) fun h => h1n a (hN a h).1
    tok := Nat.le_trans F.tok x.toks
    mo := fun a ha => ⟨.inl (F.mo a ha), fun q => (hT a (hD a q)).2.1 ha⟩
    mlt := fun a ha => by
      rcases ha.1 with h | h
      · by_cases q : T a
        · exact hl a q ha.2
        · obtain ⟨o, g⟩ := F.mlt a h; exact ⟨o, x.keep _ _ q g⟩
      · exact (hN a h).2
    molt := F.molt
    mfresh := fun a ha hmo => by
      rcases ha.1 with h | h
      · exact F.mfresh a h hmo
      · cases q : s₀.heap.get? a with
        | none => rfl
        | some o => have := (hN a h).1; rw [F.base.keep _ _ q] at this; cases this
    lM := ⟨.inl F.lM, fun q => hTL (hD _ q)⟩
    lMo := F.lMo
    ns := ⟨m, hns.at fun o' e => x.keep _ _ hTL e, fun y hy => slot _ _ (h2 y hy), h3⟩
    ownl := F.ownl
    cells := fun y hy => (by obtain ⟨a, ov, e1, e2, e3, e4⟩ := F.cells y hy; exact ⟨a, ov, e1, ⟨.inl e2, fun q => hTc _ _ e3 (hD _ q)⟩, (by have e5 := e3; obtain ⟨oc, g, gd⟩ := e5; exact ⟨oc, x.keep _ _ (hTc _ _ e3) g, gd⟩), slot _ _ e4⟩)
    cdist := F.cdist, cmo := F.cmo
    prot := fun p hp => (by obtain ⟨h1, h2, h3⟩ := F.prot p hp; exact ⟨x.keep _ _ (hK p hp) h1, ⟨.inl h2, fun q => hK p hp (hD _ q)⟩, h3⟩) }
theorem Pres.moveT {M T N D : Mut} {s s' : Shared} {g : Nat} (x : Chg T g s s') (hT : ∀ z, T z → M z) (hN : ∀ z, N z → s.heap.get? z = none) : Pres c M s (fun z => (M z ∨ N z) ∧ ¬ D z) s' := fun q u r =>
  r.mono (fun z o hz e => x.keep z o (fun q => hz (hT z q)) e) fun z o hz hm => by
    rcases hm.1 with h | h
    · exact h
    · rw [hN z h] at hz; cases hz

theorem Fm.rebase {env : Env} {Mo M : Mut} {K : List (Addr × Obj)} {s₀ s : Shared} (F : Fm c b env ρ Mo s₀ K M s) : Fm c b env ρ Mo { s₀ with gens := s.gens } K M s :=
  { F with base := ⟨F.base.keep, F.base.os, F.base.toks, fun x => x, fun _ _ e => e⟩ }
theorem Fm.unbase {env : Env} {Mo M : Mut} {K : List (Addr × Obj)} {s₀ s s' : Shared} (e : Ex s₀ s) (F : Fm c b env ρ Mo { s₀ with gens := s.gens } K M s') : Fm c b env ρ Mo s₀ K M s' :=
  { F with base := ⟨F.base.keep, F.base.os, F.base.toks, fun x => F.base.bare (e.bare x), fun i x h => F.base.gens i x (e.gens i x h)⟩ }

/- the objects that a generator holds -/
noncomputable def Has (TL : List (Addr × Obj)) (s : Shared) : Prop := ∀ q ∈ TL, s.heap.get? q.1 = some q.2
noncomputable def Tof (TL : List (Addr × Obj)) : Mut := fun z => ∃ o, (z, o) ∈ TL
noncomputable def Plain (TL : List (Addr × Obj)) : Prop := ∀ q ∈ TL, (∀ v, q.2.data ≠ .cell v) ∧ ∀ xs n, q.2.data ≠ .seq xs n
noncomputable def FreshTup (s s' : Shared) (q : PV) (v : Value) : Prop := ∃ (T' : Addr) (i : Int) (ch : Nat) (tk tk' : Tok), q = .tup [.int i, .str [ch]] ∧ v = .ref T' ∧ s.heap.get? T' = none ∧ s'.heap.get? T' = some (tupObj [.int i tk, .str (txt [ch]) tk'])

/- what a generator will give -/
noncomputable def GNext (c : Cx) (A : Around) (it : Addr) (g : Nat) : List PV → List (Addr × Obj) → GenState → Prop
  | [], TL, gs => ∀ (s : Shared) (Q : Option Value → Shared → Prop), Has TL s → s.gens[g]? = some gs → Keep c.h1 s.heap → 1 ≤ s.toks → (∀ s', Chg (Tof TL) g s s' → Q none s') → W c A (pyNext (.ref it)) Q s
  | q :: ps, TL, gs => ∀ (s : Shared) (Q : Option Value → Shared → Prop), Has TL s → s.gens[g]? = some gs → Keep c.h1 s.heap → 1 ≤ s.toks →
      (∀ v s' TL' gs', Chg (Tof TL) g s s' → s'.gens[g]? = some gs' → Has TL' s' → Plain TL' → (∃ o, (it, o) ∈ TL' ∧ o.cls = .type "generator") → (∀ z, Tof TL z → Tof TL' z) → (∀ z, Tof TL' z → Tof TL z ∨ s.heap.get? z = none) → FreshTup s s' q v → GNext c A it g ps TL' gs' → Q (some v) s') →
      W c A (pyNext (.ref it)) Q s

theorem Fm.addprot {env : Env} {Mo M : Mut} {K TL : List (Addr × Obj)} {s₀ s : Shared} (F : Fm c b env ρ Mo s₀ K M s) (hT : ∀ q ∈ TL, s.heap.get? q.1 = some q.2 ∧ M q.1 ∧ Held env.locals q.1 q.2) : Fm c b env ρ Mo s₀ (TL ++ K) M s :=
  { F with prot := fun q hq => (List.mem_append.mp hq).elim (hT q) (F.prot q) }
theorem Fm.dropprot {env : Env} {Mo M : Mut} {K TL : List (Addr × Obj)} {s₀ s : Shared} (F : Fm c b env ρ Mo s₀ (TL ++ K) M s) : Fm c b env ρ Mo s₀ K M s :=
  { F with prot := fun q hq => F.prot q (List.mem_append.mpr (.inr hq)) }

theorem gen_run {target : Expr} {body orelse : List Stmt} {ps : List PV} {ρ ρ' : Rho} {f : Fl} (h : ForRun c b d target body orelse ps ρ f ρ') :
    ∀ (A : Around) (env : Env) (Mo : Mut) (s₀ : Shared) (K : List (Addr × Obj)) (M : Mut) (s : Shared) (it : Addr) (g : Nat) (TL : List (Addr × Obj)) (gs : GenState) (Rk : Result → Shared → Prop), Room d A → Fm c b env ρ Mo s₀ K M s →
      GNext c A it g ps TL gs → Has TL s → Plain TL → (∀ z, Tof TL z → M z ∧ ¬ Mo z ∧ z ≠ env.locals) → (∀ p ∈ K, ¬ Tof TL p.1) → s.gens[g]? = some gs → s₀.gens[g]? = none →
      (∀ fl s' M', Fm c b env ρ' Mo s₀ K M' s' → Pres c M s M' s' → FlR c s'.heap M' f fl → Rk (.ok fl) s') → codeAny (model c.prog c.w) A (.forLoop target (.ref it) body orelse env) Rk s := by
  have held : ∀ {TL : List (Addr × Obj)} {env : Env} {M Mo : Mut} {s : Shared}, Has TL s → Plain TL → (∀ z, Tof TL z → M z ∧ ¬ Mo z ∧ z ≠ env.locals) → ∀ z, Tof TL z → M z ∧ ¬ Mo z ∧ ∃ o, s.heap.get? z = some o ∧ Held env.locals z o := fun hh hp hm z hz => by
    obtain ⟨o, ho⟩ := hz
    obtain ⟨h1, h2, h3⟩ := hm z ⟨o, ho⟩
    exact ⟨h1, h2, o, hh _ ho, h3, (hp _ ho).1, (hp _ ho).2⟩
  -- one turn up to the body's end
  have step : ∀ {p : PV} {ps : List PV} {ρ ρ₀ ρ₁ : Rho} {f₁ : Fl}, Bind c b d target p ρ ρ₀ → Exec c b d body ρ₀ f₁ ρ₁ →
      ∀ (A : Around) (env : Env) (Mo : Mut) (s₀ : Shared) (K : List (Addr × Obj)) (M : Mut) (s : Shared) (it : Addr) (g : Nat) (TL : List (Addr × Obj)) (gs : GenState) (Rk : Result → Shared → Prop), Room d A → Fm c b env ρ Mo s₀ K M s →
      GNext c A it g (p :: ps) TL gs → Has TL s → Plain TL → (∀ z, Tof TL z → M z ∧ ¬ Mo z ∧ z ≠ env.locals) → (∀ p ∈ K, ¬ Tof TL p.1) → s.gens[g]? = some gs → s₀.gens[g]? = none →
      (∀ fl s' M' TL' gs', Fm c b env ρ₁ Mo s₀ K M' s' → Pres c M s M' s' → FlR c s'.heap M' f₁ fl → GNext c A it g ps TL' gs' → Has TL' s' → Plain TL' → (∀ z, Tof TL' z → M' z ∧ ¬ Mo z ∧ z ≠ env.locals) → (∀ p ∈ K, ¬ Tof TL' p.1) → s'.gens[g]? = some gs' →
        W c A (match fl with
          | .next | .cont => again (.forLoop target (.ref it) body orelse env)
          | .brk => pure (.done .next)
          | .ret v => pure (.done (.ret v))) (fun fin s' => match fin with | .done f => Rk (.ok f) s' | .again c' => c'.quiet = true ∧ codeAny (model c.prog c.w) A c' Rk s') s') →
      codeAny (model c.prog c.w) A (.forLoop target (.ref it) body orelse env) Rk s := by
    intro p ps ρ ρ₀ ρ₁ f₁ h0 h1 A env Mo s₀ K M s it g TL gs Rk hR F hgn hh hpl hm hK hgs hg0 k
    refine for_turn ?_
    unfold forTurn
    refine wpAny_bind (wpAny_standAt (wpAny_bind (wpAny_onRaise (wpAny_mono (E := fun _ _ => False) (hgn s _ hh hgs F.h1 F.tok fun v s1 TL' gs' ch hgs' hh' hpl' hit' hsub hnew hfr hgn' => ?_) (fun _ _ q => q) fun _ _ q => q.elim))))
    have hlive : ∀ z, Tof TL' z → ∃ o, s1.heap.get? z = some o := fun z ⟨o, ho⟩ => ⟨o, hh' _ ho⟩
    have F1 : Fm c b env ρ Mo s₀ K _ s1 := F.moveT (N := fun z => Tof TL' z ∧ s.heap.get? z = none) (D := fun _ => False) ch (held hh hpl hm) (fun _ q => q.elim) (fun z hz _ => hlive z (hsub z hz))
      (fun z hz => ⟨hz.2, hlive z hz.1⟩) hK hg0
    have p1 : Pres c M s _ s1 := Pres.moveT (N := fun z => Tof TL' z ∧ s.heap.get? z = none) (D := fun _ => False) ch (fun z hz => (hm z hz).1) fun z hz => hz.2
    generalize hM1 : (fun z => (M z ∨ (Tof TL' z ∧ s.heap.get? z = none)) ∧ ¬ False) = M1 at F1 p1
    have hm1 : ∀ z, Tof TL' z → M1 z ∧ ¬ Mo z ∧ z ≠ env.locals := fun z hz => by
      rw [← hM1]
      rcases hnew z hz with h | h
      · obtain ⟨a1, a2, a3⟩ := hm z h
        exact ⟨⟨.inl a1, fun q => q⟩, a2, a3⟩
      · refine ⟨⟨.inr ⟨hz, h⟩, fun q => q⟩, F.notMo h, ?_⟩
        rintro rfl
        obtain ⟨o, g⟩ := F.mlt _ F.lM
        rw [h] at g; cases g
    have hK1 : ∀ p ∈ K, ¬ Tof TL' p.1 := fun p hp hz => by
      rcases hnew _ hz with h | h
      · exact hK p hp h
      · have := (F.prot p hp).1; rw [h] at this; cases this
    obtain ⟨oi, hoi, hcls⟩ := hit'
    refine wpAny_bind (letOwned (hh' _ hoi) (fun n hn => by rw [hcls] at hn; cases hn; decide) ?_)
    obtain ⟨T', i, chr, tk, tk', rfl, rfl, hT0, hT1⟩ := hfr
    have hnM1 : ¬ M1 T' := by
      rw [← hM1]
      rintro ⟨q | ⟨q, _⟩, _⟩
      · obtain ⟨o, g⟩ := F.mlt _ q; rw [hT0] at g; cases g
      · obtain ⟨o, ho⟩ := q
        have := hh' _ ho
        rw [hT1] at this; cases this
        exact (hpl' _ ho).2 _ _ rfl
    have hr1 : R c s1.heap M1 (.tup [.int i, .str [chr]]) (.ref T') := .tup hnM1 hT1 (.cons (.int _ _) (.cons (.str [chr] tk') .nil))
    have F1' : Fm c b env ρ Mo { s₀ with gens := s1.gens } (TL' ++ K) M1 s1 := F1.rebase.addprot fun q hq => ⟨hh' q hq, (hm1 q.1 ⟨q.2, hq⟩).1, (hm1 q.1 ⟨q.2, hq⟩).2.2, (hpl' q hq).1, (hpl' q hq).2⟩
    refine wpAny_bind (h0.run A env Mo _ _ M1 s1 (.ref T') _ hR F1' hr1 fun s2 F2 hp2 _ => ?_)
    refine wpAny_bind (h1.run A env Mo _ _ M1 s2 _ hR F2 fun fl s3 M3 F3 hp3 hfl => ?_)
    refine k fl s3 M3 TL' gs' (Fm.unbase F1.base F3.dropprot) ((p1.trans hp2).trans hp3) hfl hgn' (fun q hq => (F3.prot q (List.mem_append.mpr (.inl hq))).1) hpl' (fun z hz => ?_) hK1 (F3.base.gens g gs' hgs')
    obtain ⟨o, ho⟩ := hz
    exact ⟨(F3.prot _ (List.mem_append.mpr (.inl ho))).2.1, (hm1 z ⟨o, ho⟩).2.1, (hm1 z ⟨o, ho⟩).2.2⟩
  induction h with
  | @nil ρ ρ' f h =>
    intro A env Mo s₀ K M s it g TL gs Rk hR F hgn hh hpl hm hK hgs hg0 k
    refine for_turn ?_
    unfold forTurn
    refine wpAny_bind (wpAny_standAt (wpAny_bind (wpAny_onRaise (wpAny_mono (E := fun _ _ => False) (hgn s _ hh hgs F.h1 F.tok fun s1 ch => ?_) (fun _ _ q => q) fun _ _ q => q.elim))))
    have F1 := F.moveT (N := fun _ => False) (D := Tof TL) ch (held hh hpl hm) (fun _ q => q) (fun z hz q => absurd hz q) (fun z q => q.elim) hK hg0
    refine wpAny_pure ⟨rfl, codeAny_block (wpAny_mono (E := fun _ _ => False) (h.run A env Mo s₀ K _ s1 _ hR F1 fun fl s'' M'' F'' hp hf' => ?_) (fun _ _ q => q) fun _ _ q => q.elim)⟩
    exact k fl s'' M'' F'' ((Pres.moveT (N := fun _ => False) (D := Tof TL) ch (fun z hz => (hm z hz).1) fun z q => q.elim).trans hp) hf'
  | cons h0 h1 _ ih =>
    intro A env Mo s₀ K M s it g TL gs Rk hR F hgn hh hpl hm hK hgs hg0 k
    refine step h0 h1 A env Mo s₀ K M s it g TL gs Rk hR F hgn hh hpl hm hK hgs hg0 fun fl s' M' TL' gs' F' hp' hfl hgn' hh' hpl' hm' hK' hgs' => ?_
    have : fl = .next := hfl
    subst this
    exact wpAny_pure ⟨rfl, ih A env Mo s₀ K M' s' it g TL' gs' Rk hR F' hgn' hh' hpl' hm' hK' hgs' hg0 fun fl s'' M'' F'' hp'' hf'' => k fl s'' M'' F'' (hp'.trans hp'') hf''⟩
  | ret h0 h1 =>
    intro A env Mo s₀ K M s it g TL gs Rk hR F hgn hh hpl hm hK hgs hg0 k
    refine step h0 h1 A env Mo s₀ K M s it g TL gs Rk hR F hgn hh hpl hm hK hgs hg0 fun fl s' M' TL' gs' F' hp' hfl hgn' hh' hpl' hm' hK' hgs' => ?_
    obtain ⟨v, rfl, hr⟩ := hfl
    exact wpAny_pure (k _ s' M' F' hp' ⟨v, rfl, hr⟩)
  | brk h0 h1 =>
    intro A env Mo s₀ K M s it g TL gs Rk hR F hgn hh hpl hm hK hgs hg0 k
    refine step h0 h1 A env Mo s₀ K M s it g TL gs Rk hR F hgn hh hpl hm hK hgs hg0 fun fl s' M' TL' gs' F' hp' hfl hgn' hh' hpl' hm' hK' hgs' => ?_
    have : fl = .brk := hfl
    subst this
    exact wpAny_pure (k _ s' M' F' hp' rfl)
end
end Mine
end

section
open PySem PySem.W PyProof.Rows
open PySem.Builtin PySem.Builtin.Str
set_option Elab.async false
set_option maxRecDepth 100000
set_option linter.unusedVariables false
set_option autoImplicit false
namespace Mine

/- what the generator gives for a text -/
noncomputable def escItems : List Nat → Nat → List PV
  | [], _ => []
  | ch :: r, j => .tup [.int j, .str [ch]] :: escItems r (j + 1)

section
variable {c : Cx} {b : Blk} {d : Nat} {ρ : Rho}

theorem setGen_ne {s : Shared} {g i : Nat} {x : GenState} (h : i ≠ g) : (s.setGen g x).gens[i]? = s.gens[i]? := by
  simp [Shared.setGen, Ne.symm h]
theorem allBare_setGen {s : Shared} {g : Nat} {x : GenState} (hx : x.bare = true) (h : AllBare s.gens) : AllBare (s.setGen g x).gens := by
  intro y hy
  simp only [Shared.setGen] at hy
  obtain ⟨i, hi, rfl⟩ := Array.mem_iff_getElem.mp hy
  rw [Array.getElem_setIfInBounds (by simpa using hi)]
  split
  · exact hx
  · exact h _ (Array.getElem_mem _)

theorem chg_of {p : GP} {s s₁ : Shared} {g : Nat} {x : GenState} {h' : Heap} {TL : List (Addr × Obj)} (hx : x.bare = true) (hT : ∀ z, p.T z → Tof TL z ∨ s.heap.get? z = none) (e : ExT p.T (s.setGen g .running) s₁) (hh : ∀ z o, s₁.heap.get? z = some o → h'.get? z = some o) :
    Chg (Tof TL) g s { s₁.setGen g x with heap := h' } where
  keep := fun z o hz g => hh z o (e.keep z o (fun q => by
    rcases hT z q with h | h
    · exact hz h
    · rw [h] at g; cases g) g)
  os := e.os
  toks := e.toks
  bare := fun h => allBare_setGen (s := s₁) hx (e.bare (allBare_setGen (by rfl) h))
  gens := fun i y hi hy => by
    show (s₁.setGen g x).gens[i]? = some y
    rw [setGen_ne hi]
    exact e.gens i y (by rw [setGen_ne hi]; exact hy)

noncomputable def oEnum (I : Addr) (j : Int) (old : Value) : Obj := { cls := .type "enumerate", dict := none, data := .fields #[.none, .bool false, .ref I, rawInt j, .none, old], slots := #[] }

/- the generator's object -/
structure GObj (g : Nat) (o : Obj) : Prop where
  cls : o.cls = .type "generator"
  data : ∃ nm qn, o.data = .fields #[.int g 0, nm, qn]
  slots : o.slots = #[]

theorem drop_split {l : List Nat} {j ch : Nat} (h : l[j]? = some ch) : l.drop j = ch :: l.drop (j + 1) := by
  obtain ⟨hj, rfl⟩ := List.getElem?_eq_some_iff.mp h
  exact List.drop_eq_getElem_cons hj

theorem at_setGen {p : GP} {j : Nat} {s : Shared} {g : Nat} {x : GenState} (h : p.At c j s) : p.At c j (s.setGen g x) := h

theorem at_has {p : GP} {j : Nat} {s₁ : Shared} (h : p.At c j s₁) : ∃ oL oE oI, Has [(p.env.locals, oL), (p.E, oE), (p.I, oI)] s₁ ∧ Plain [(p.env.locals, oL), (p.E, oE), (p.I, oI)] ∧
    ∀ s : Shared, Has [(p.env.locals, oL), (p.E, oE), (p.I, oI)] s → Keep c.h1 s.heap → 1 ≤ s.toks → p.At c j s := by
  obtain ⟨m, old, ⟨oL, es, ep, gL, dL, kL, fL⟩, he, hen, ⟨oI, gI, cI, dI⟩, h1, ht⟩ := h
  refine ⟨oL, oEnum p.I j old, oI, ?_, ?_, fun s hs h1 ht => ⟨m, old, ⟨oL, es, ep, hs (p.env.locals, oL) (by simp), dL, kL, fL⟩, he, hs (p.E, oEnum p.I j old) (by simp), ⟨oI, hs (p.I, oI) (by simp), cI, dI⟩, h1, ht⟩⟩
  · intro q hq
    simp only [List.mem_cons, List.not_mem_nil, or_false] at hq
    rcases hq with rfl | rfl | rfl
    · exact gL
    · exact hen
    · exact gI
  · intro q hq
    simp only [List.mem_cons, List.not_mem_nil, or_false] at hq
    rcases hq with rfl | rfl | rfl
    · exact ⟨(fun v e => by rw [dL] at e; cases e), (fun xs n e => by rw [dL] at e; cases e)⟩
    · exact ⟨(fun v e => by cases e), (fun xs n e => by cases e)⟩
    · exact ⟨(fun v e => by rw [dI] at e; cases e), (fun xs n e => by rw [dI] at e; cases e)⟩

theorem gnext_started {p : GP} (ok : p.Ok c b) (hl : c.h1.NoLimit) {A : Around} (hA : Room 1 A) {it : Addr} {g : Nat} {oit : Obj} (hgo : GObj g oit) (hitL : ¬ p.T it) :
    ∀ (n j : Nat) (gs : GenState) (TL : List (Addr × Obj)), n + j = p.x.cps.size → (∀ s'', p.At c j s'' → gs.Goes (model c.prog c.w) A.in1 p.R (p.Y c) n (.send .none) s'') →
      (∀ s : Shared, Has TL s → Keep c.h1 s.heap → 1 ≤ s.toks → p.At c j s) → (it, oit) ∈ TL → (∀ z, p.T z → Tof TL z) → (∀ z, Tof TL z → z = it ∨ p.T z) → GNext c A it g (escItems (p.x.cps.toList.drop j) j) TL gs := by
  have room : A.depth < recursionLimit := by have := hA.depth; lia
  intro n
  induction n with
  | zero =>
    intro j gs TL hj hgoes hat hit hT hT'
    have : p.x.cps.toList.drop j = [] := List.drop_of_length_le (by simp; lia)
    rw [this]
    intro s Q hh hgs h1 ht k
    obtain ⟨nm, qn, hd⟩ := hgo.data
    refine pyNext_genQ (P := p.P) (Y := p.Y c) (n := 0) hA.handled (hl.keeps h1) room ⟨oit, nm, qn, hh _ hit, hgo.cls, hd, hgo.slots⟩ hgs (hgoes _ (at_setGen (hat s hh h1 ht))) (fun v s₁ gs' hb hy => ?_) (fun s₁ hp h' hk => ?_)
    · obtain ⟨_, _, _, _, _, _, _, _, hat1, _, hkap⟩ := hy
      exact (hkap _ hat1).elim
    · exact k _ (chg_of (x := .finished) rfl (fun z hz => .inl (hT z hz)) hp.2 hk)
  | succ n ih =>
    intro j gs TL hj hgoes hat hit hT hT'
    have hlt : j < p.x.cps.toList.length := by simp; lia
    obtain ⟨ch, hch⟩ : ∃ ch, p.x.cps.toList[j]? = some ch := ⟨_, List.getElem?_eq_getElem hlt⟩
    rw [drop_split hch]
    intro s Q hh hgs h1 ht k
    obtain ⟨nm, qn, hd⟩ := hgo.data
    refine pyNext_genQ (P := p.P) (Y := p.Y c) (n := n + 1) hA.handled (hl.keeps h1) room ⟨oit, nm, qn, hh _ hit, hgo.cls, hd, hgo.slots⟩ hgs (hgoes _ (at_setGen (hat s hh h1 ht))) (fun v s₁ gs' hb hy => ?_) (fun s₁ hp h' hk => ?_)
    · obtain ⟨T', tk, tk', ch', hch', rfl, hT1, hT0, hat1, hext, hkap⟩ := hy
      have hn1 : n + 1 - 1 = n := rfl
      rw [hn1] at hch' hT1 hat1 hkap
      have hj1 : p.x.cps.size - 1 - n = j := by lia
      have hj2 : p.x.cps.size - n = j + 1 := by lia
      rw [hj1] at hch' hT1
      rw [hj2] at hat1 hkap
      have : ch' = ch := by
        have e : p.x.cps.toList[j]? = p.x.cps[j]? := by simp
        rw [e, hch'] at hch; cases hch; rfl
      subst this
      obtain ⟨oL, oE, oI, hhas, hplain, hback⟩ := at_has hat1
      have hitk : s₁.heap.get? it = some oit := hext.keep _ _ hitL (hh _ hit)
      have hT2 : ∀ z, p.T z → Tof ((it, oit) :: [(p.env.locals, oL), (p.E, oE), (p.I, oI)]) z := fun z hz => by
        rcases hz with rfl | rfl | rfl
        · exact ⟨oL, by simp⟩
        · exact ⟨oE, by simp⟩
        · exact ⟨oI, by simp⟩
      have hT2' : ∀ z, Tof ((it, oit) :: [(p.env.locals, oL), (p.E, oE), (p.I, oI)]) z → z = it ∨ p.T z := fun z hz => by
        obtain ⟨o, ho⟩ := hz
        simp only [List.mem_cons, List.not_mem_nil, or_false, Prod.mk.injEq] at ho
        rcases ho with ⟨rfl, _⟩ | ⟨rfl, _⟩ | ⟨rfl, _⟩ | ⟨rfl, _⟩
        · exact .inl rfl
        · exact .inr (.inl rfl)
        · exact .inr (.inr (.inl rfl))
        · exact .inr (.inr (.inr rfl))
      refine k (.ref T') (s₁.setGen g gs') ((it, oit) :: [(p.env.locals, oL), (p.E, oE), (p.I, oI)]) gs' (chg_of (h' := s₁.heap) hb (fun z hz => .inl (hT z hz)) hext fun _ _ e => e) ?_ ?_ ?_ ⟨oit, by simp, hgo.cls⟩ ?_ ?_ ⟨T', j, ch', tk, tk', rfl, rfl, hT0, hT1⟩ ?_
      · exact setGen_self (hext.gens g .running (setGen_self hgs))
      · intro q hq
        rcases List.mem_cons.mp hq with rfl | hq
        · exact hitk
        · exact hhas q hq
      · intro q hq
        rcases List.mem_cons.mp hq with rfl | hq
        · exact ⟨(fun v e => by rw [hd] at e; cases e), (fun xs n e => by rw [hd] at e; cases e)⟩
        · exact hplain q hq
      · intro z hz
        rcases hT' z hz with rfl | h
        · exact ⟨oit, by simp⟩
        · exact hT2 z h
      · intro z hz
        rcases hT2' z hz with rfl | h
        · exact .inl ⟨oit, hit⟩
        · exact .inl (hT z h)
      · exact ih (j + 1) gs' _ (by lia) (fun s'' h => hkap s'' h) (fun s hs h1 ht => hback s (fun q hq => hs q (List.mem_cons_of_mem _ hq)) h1 ht) (by simp) hT2 hT2'
    · exact absurd hp.1 (Nat.succ_ne_zero n)

theorem gp_ok (hblk : EscBlk c b) {env : Env} (hen : EnvOk c b env) {s : Shared} (h1 : Keep c.h1 s.heap) (hLs : env.locals < s.heap.objs.size) (x : Str) (t : Tok) : GP.Ok ⟨env, s.heap.objs.size + 1, s.heap.objs.size, x, t⟩ c b := by
  have h1n : ∀ z, s.heap.objs.size ≤ z → c.h1.get? z = none := fun z hz => by
    cases q : c.h1.get? z with
    | none => rfl
    | some o => exact absurd (Nat.lt_of_lt_of_le (Heap.lt_size (h1 _ _ q)) hz) (Nat.lt_irrefl _)
  exact {
    sc := hen.sc
    kind := hblk.kind
    gl := hen.gl
    bl := hen.bl
    nocell := hblk.nolook
    cells := hen.cells
    L1 := hen.L1
    EL := Nat.ne_of_gt (Nat.lt_succ_of_lt hLs)
    IL := Nat.ne_of_gt hLs
    EI := Nat.succ_ne_self _
    E1 := h1n _ (Nat.le_succ _)
    I1 := h1n _ (Nat.le_refl _)
    loc := fun y hy => hblk.loc y (by rcases hy with h | h | h <;> simp [h])
    co := hblk.co }

theorem gnext_fresh {body : List Stmt} (hbody : EscBody body) (hblk : EscBlk c b) (hl : c.h1.NoLimit) {A : Around} (hA : Room 2 A) {it : Addr} {g : Nat} {oit oL : Obj} (hgo : GObj g oit) {env : Env} (hen : EnvOk c b env) (hne : it ≠ env.locals)
    {es : Array DictEntry} {ep : Nat} (hd : oL.data = .dict es ep) (hk : StrKeys es) {x : Str} {t : Tok} (hf : nsFind es "addr" = some (.str x t)) (hb : ∀ (i ch : Nat), x.cps[i]? = some ch → ch ≠ 92) :
    GNext c A it g (escItems x.cps.toList 0) [(it, oit), (env.locals, oL)] (.fresh (.func body env)) := by
  have room : A.depth < recursionLimit := by have := hA.depth; lia
  have hA1 : Room 1 A := hA.le (by lia)
  have hAi : Room 1 A.in1 := ⟨hA.handled, by have := hA.depth; show A.depth + 8 * 1 < recursionLimit; lia, by have := hA.units; show A.units + 1 + 60 * 1 + 100 < cLine; lia⟩
  obtain ⟨nm, qn, hdt⟩ := hgo.data
  -- the first call
  have first : ∀ (s : Shared), Has [(it, oit), (env.locals, oL)] s → s.gens[g]? = some (.fresh (.func body env)) → Keep c.h1 s.heap → 1 ≤ s.toks → ∀ (Q : Option Value → Shared → Prop),
      (∀ v s₁ gs', gs'.bare = true → GP.Y ⟨env, s.heap.objs.size + 1, s.heap.objs.size, x, t⟩ c (x.cps.size - 1) (s.setGen g .running) v s₁ (fun r' s'' => match x.cps.size with
        | 0 => False
        | m + 1 => gs'.Goes (model c.prog c.w) A.in1 (GP.R ⟨env, s.heap.objs.size + 1, s.heap.objs.size, x, t⟩) (GP.Y ⟨env, s.heap.objs.size + 1, s.heap.objs.size, x, t⟩ c) m r' s'') → Q (some v) (s₁.setGen g gs')) →
      (∀ s₁, GP.P ⟨env, s.heap.objs.size + 1, s.heap.objs.size, x, t⟩ x.cps.size (s.setGen g .running) s₁ → ∀ h', (∀ b o, s₁.heap.get? b = some o → h'.get? b = some o) → Q none { s₁.setGen g .finished with heap := h' }) →
      W c A (pyNext (.ref it)) Q s := fun s hh hgs h1 ht Q hY hP => by
    have hn : s.heap.Ns env.locals (nsFind es) := ⟨oL, es, ep, hh (env.locals, oL) (by simp), hd, hk, fun _ => rfl⟩
    exact pyNext_genQ (P := GP.P ⟨env, s.heap.objs.size + 1, s.heap.objs.size, x, t⟩) (Y := GP.Y ⟨env, s.heap.objs.size + 1, s.heap.objs.size, x, t⟩ c) (n := x.cps.size) hA.handled (hl.keeps h1) room
      ⟨oit, nm, qn, hh (it, oit) (by simp), hgo.cls, hdt, hgo.slots⟩ hgs ⟨rfl, seg_first hbody hblk hen hAi (s := s.setGen g .running) hn hf h1 ht hb⟩ hY hP
  have places : ∀ (s : Shared), Has [(it, oit), (env.locals, oL)] s → ∀ z, GP.T ⟨env, s.heap.objs.size + 1, s.heap.objs.size, x, t⟩ z → Tof [(it, oit), (env.locals, oL)] z ∨ s.heap.get? z = none := fun s hh z hz => by
    have fr : ∀ a, s.heap.objs.size ≤ a → s.heap.get? a = none := fun a ha => by
      cases e : s.heap.get? a with
      | none => rfl
      | some o' => exact absurd (Nat.lt_of_lt_of_le (Heap.lt_size e) ha) (Nat.lt_irrefl _)
    rcases hz with rfl | rfl | rfl
    · exact .inl ⟨oL, by simp⟩
    · exact .inr (fr _ (Nat.le_succ _))
    · exact .inr (fr _ (Nat.le_refl _))
  cases hx : x.cps.size with
  | zero =>
    have : x.cps.toList = [] := List.eq_nil_of_length_eq_zero (by simpa using hx)
    rw [this]
    intro s Q hh hgs h1 ht k
    refine first s hh hgs h1 ht Q (fun v s₁ gs' hb hy => ?_) fun s₁ hp h' hk => ?_
    · obtain ⟨_, _, _, _, _, _, _, _, hat1, _, hkap⟩ := hy
      have := hkap _ (by simp only [hx] at hat1 ⊢; exact hat1)
      rw [hx] at this
      exact this.elim
    · exact k _ (chg_of (x := .finished) rfl (places s hh) hp.2 hk)
  | succ n =>
    have hlt : 0 < x.cps.toList.length := by simp; lia
    obtain ⟨ch, hch⟩ : ∃ ch, x.cps.toList[0]? = some ch := ⟨_, List.getElem?_eq_getElem hlt⟩
    have hsp : x.cps.toList = ch :: x.cps.toList.drop 1 := by have := drop_split hch; rwa [List.drop_zero] at this
    have key : GNext c A it g (escItems (ch :: x.cps.toList.drop 1) 0) [(it, oit), (env.locals, oL)] (.fresh (.func body env)) := by
      intro s Q hh hgs h1 ht k
      have hn : s.heap.Ns env.locals (nsFind es) := ⟨oL, es, ep, hh (env.locals, oL) (by simp), hd, hk, fun _ => rfl⟩
      have ok := gp_ok hblk hen h1 hn.lt x t
      have hitlt : it < s.heap.objs.size := Heap.lt_size (hh (it, oit) (by simp))
      have hitL : ¬ GP.T ⟨env, s.heap.objs.size + 1, s.heap.objs.size, x, t⟩ it := by
        rintro (h | h | h)
        · exact hne h
        · exact absurd h (Nat.ne_of_lt (Nat.lt_succ_of_lt hitlt))
        · exact absurd h (Nat.ne_of_lt hitlt)
      refine first s hh hgs h1 ht Q (fun v s₁ gs' hb hy => ?_) fun s₁ hp h' hk => ?_
      · generalize hp : (⟨env, s.heap.objs.size + 1, s.heap.objs.size, x, t⟩ : GP) = p at hy ok hitL
        have px : p.x = x := by rw [← hp]
        have pe : p.env = env := by rw [← hp]
        have hpl := places s hh
        rw [hp] at hpl
        obtain ⟨T', tk, tk', ch', hch', rfl, hT1, hT0, hat1, hext, hkap⟩ := hy
        rw [px] at hch' hT1 hat1 hkap
        have hj1 : x.cps.size - 1 - (x.cps.size - 1) = 0 := by lia
        have hj2 : x.cps.size - (x.cps.size - 1) = 1 := by lia
        rw [hj1] at hch' hT1
        rw [hj2] at hat1 hkap
        have : ch' = ch := by
          have e : x.cps.toList[0]? = x.cps[0]? := by simp
          rw [e, hch'] at hch; cases hch; rfl
        subst this
        obtain ⟨oL', oE, oI, hhas, hplain, hback⟩ := at_has hat1
        have hitk : s₁.heap.get? it = some oit := hext.keep _ _ hitL (hh (it, oit) (by simp))
        have hT2 : ∀ z, p.T z → Tof ((it, oit) :: [(p.env.locals, oL'), (p.E, oE), (p.I, oI)]) z := fun z hz => by
          rcases hz with rfl | rfl | rfl
          · exact ⟨oL', by simp⟩
          · exact ⟨oE, by simp⟩
          · exact ⟨oI, by simp⟩
        have hT2' : ∀ z, Tof ((it, oit) :: [(p.env.locals, oL'), (p.E, oE), (p.I, oI)]) z → z = it ∨ p.T z := fun z hz => by
          obtain ⟨o, ho⟩ := hz
          simp only [List.mem_cons, List.not_mem_nil, or_false, Prod.mk.injEq] at ho
          rcases ho with ⟨rfl, _⟩ | ⟨rfl, _⟩ | ⟨rfl, _⟩ | ⟨rfl, _⟩
          · exact .inl rfl
          · exact .inr (.inl rfl)
          · exact .inr (.inr (.inl rfl))
          · exact .inr (.inr (.inr rfl))
        refine k (.ref T') (s₁.setGen g gs') ((it, oit) :: [(p.env.locals, oL'), (p.E, oE), (p.I, oI)]) gs' (chg_of (h' := s₁.heap) hb hpl hext fun _ _ e => e) ?_ ?_ ?_ ⟨oit, by simp, hgo.cls⟩ ?_ ?_ ⟨T', 0, ch', tk, tk', rfl, rfl, hT0, hT1⟩ ?_
        · exact setGen_self (hext.gens g .running (setGen_self hgs))
        · intro q hq
          rcases List.mem_cons.mp hq with rfl | hq
          · exact hitk
          · exact hhas q hq
        · intro q hq
          rcases List.mem_cons.mp hq with rfl | hq
          · exact ⟨(fun v e => by rw [hdt] at e; cases e), (fun xs n e => by rw [hdt] at e; cases e)⟩
          · exact hplain q hq
        · intro z hz
          obtain ⟨o, ho⟩ := hz
          simp only [List.mem_cons, List.not_mem_nil, or_false, Prod.mk.injEq] at ho
          rcases ho with ⟨rfl, _⟩ | ⟨rfl, _⟩
          · exact ⟨oit, by simp⟩
          · exact hT2 _ (.inl (by rw [pe]))
        · intro z hz
          rcases hT2' z hz with rfl | h
          · exact .inl ⟨oit, by simp⟩
          · exact hpl z h
        · have := gnext_started ok hl hA1 hgo hitL n 1 gs' ((it, oit) :: [(p.env.locals, oL'), (p.E, oE), (p.I, oI)]) (by rw [px]; lia) (fun s'' h => by
            have := hkap s'' h
            rw [hx] at this
            exact this) (fun s hs h1 ht => hback s (fun q hq => hs q (List.mem_cons_of_mem _ hq)) h1 ht) (by simp) hT2 hT2'
          rw [px] at this
          exact this
      · have := hp.1; lia
    rw [← hsp] at key
    exact key
end
end Mine
end

section
open PySem PySem.W PyProof.Rows
open PySem.Builtin PySem.Builtin.Str
set_option Elab.async false
set_option maxRecDepth 100000
set_option linter.unusedVariables false
set_option autoImplicit false
namespace Mine

section
variable {c : Cx} {b : Blk} {d : Nat} {ρ : Rho}

theorem Ex.chg {T : Mut} {g : Nat} {s s' : Shared} (e : Ex s s') : Chg T g s s' := ⟨fun z o _ h => e.keep z o h, e.os, e.toks, e.bare, fun i x _ h => e.gens i x h⟩

theorem ex_for_gen {a : Addr} {f : Str} {pf cpos pos : Pos} {e target : Expr} {body orelse gbody : List Stmt} {gscope : Scope} {l : List Nat} {fl : Fl} {ρ' : Rho} (fn : FnAt c a [("addr" : Str)] gbody gscope) (hbody : EscBody gbody) (hblk : EscBlk c ⟨gscope, []⟩)
    (hgen : gscope.isGenerator = true) (hk : isGlob b f = true) (hg : GlobV c f (.ref a)) (h1 : Eval c b (d + 2) e ρ (.str l)) (hno : ∀ ch ∈ l, ch ≠ 92) (he : isStar e = false)
    (h2 : ForRun c b (d + 2) target body orelse (escItems l 0) ρ fl ρ') : Exec1 c b (d + 2) (.For target (.Call (.Name f pf) [e] [] cpos) body orelse pos) ρ fl ρ' := .mk fun A env Mo s₀ K M s Q hR F k => by
  obtain ⟨o, fd, ho, hd, hb', hsc, hgl, hbl, hcl, hcd, hbind⟩ := fn.fd
  subst hsc
  simp only [isGlob, Bool.and_eq_true, beq_iff_eq, Bool.not_eq_true'] at hk
  refine wpAny_For ?_ (fun _ => rfl)
  refine Call_Name rfl (wpAny_Name (F.loadG hk.1 hg ?_) hk.2)
  refine callWith_ok (first := []) (.inr (.inr ⟨a, o, fd, rfl, ho, hd⟩)) (evs_cons h1 evs_nil he) (by simp [plainArgs, he]) hR F fun vs s1 e1 hr => ?_
  have F1 := F.ex e1
  cases hr with
  | cons hr0 hr' =>
    cases hr'
    cases hr0 with
    | str _ t =>
      refine wpAny_call (codeAny_call_generator (by have := hR.depth; lia) (F1.h1 _ _ ho) hd hblk.co hgen hb' (hcd.keeps F1.h1) ?_)
      rw [show bindArgs fd ⟨[] ++ [Value.str (txt l) t], []⟩ = pure ([("addr" : Str)].zip [Value.str (txt l) t]) from hbind _ rfl, hcl]
      have hnc : ∀ x ∈ fd.scope.names, x.2 ≠ .cell := fun x hx => (hblk.nocell x hx).1
      refine wpAny_pure (wpAny_newFunctionEnv hnc (fun x hx => ?_) (fun h' hn' hs' => ?_) hblk.kind)
      · simp at hx; subst hx; exact hblk.loc _ (.inr (.inr (.inr rfl)))
      · have fr : ∀ z, s1.heap.objs.size ≤ z → s1.heap.get? z = none := fun z hz => by
          cases q : s1.heap.get? z with
          | none => rfl
          | some o => exact absurd (Nat.lt_of_lt_of_le (Heap.lt_size q) hz) (Nat.lt_irrefl _)
        have hk' : ∀ z o, s1.heap.get? z = some o → h'.get? z = some o := fun z o g => (hs'.2 z (Nat.ne_of_lt (Heap.lt_size g))).trans (Heap.get?_push_of_some _ g)
        have hsz' : h'.objs.size = s1.heap.objs.size + 1 := by rw [hs'.1, Heap.size_push]
        refine ⟨fn.lim.keeps fun z o g => hk' z o (F1.h1 z o g), ?_⟩
        have hA2 : Room 2 A := hR.le (by lia)
        -- the generator's object
        generalize hoit : ({ cls := Value.type "generator", data := Data.fields #[Value.int (s1.gens.size : Nat) 0, Value.str fd.name (s1.toks + 1), Value.str fd.qualname (s1.toks + 1 + 1)] } : Obj) = oit
        generalize henv : newEnv fd.scope s1.heap.objs.size fd.globals [] (fd.qualname ++ Str.ofString ".<locals>.") (some a) fd.code none fd.builtins = genv
        have hgL : genv.locals = s1.heap.objs.size := by rw [← henv]; rfl
        have hen : EnvOk c ⟨fd.scope, []⟩ genv := by
          rw [← henv]
          refine ⟨rfl, hgl, hbl, rfl, ?_⟩
          show c.h1.get? s1.heap.objs.size = none
          cases q : c.h1.get? s1.heap.objs.size with
          | none => rfl
          | some o => have := F1.h1 _ _ q; rw [fr _ (Nat.le_refl _)] at this; cases this
        have hgo : GObj s1.gens.size oit := by rw [← hoit]; exact ⟨rfl, ⟨_, _, rfl⟩, rfl⟩
        obtain ⟨oL, es, ep, gL, dL, kL, fL⟩ := hn'
        have hf : nsFind es "addr" = some (.str (txt l) t) := by rw [fL]; rfl
        have hbs : ∀ (i ch : Nat), (txt l).cps[i]? = some ch → ch ≠ 92 := fun i ch h => hno ch (by
          have h' : l[i]? = some ch := by simpa [txt] using h
          exact List.mem_of_getElem? h')
        have hne : h'.objs.size ≠ genv.locals := by rw [hgL, hsz']; exact Nat.succ_ne_self _
        have gn := gnext_fresh (A := A) hbody hblk fn.lim hA2 hgo hen hne dL kL hf hbs
        generalize hs2 : ({ s1 with heap := h'.push oit, gens := s1.gens.push (.fresh (.func gbody genv)), toks := s1.toks + 1 + 1 + 1 } : Shared) = s2
        have h2h : s2.heap = h'.push oit := by rw [← hs2]
        have h2g : s2.gens = s1.gens.push (.fresh (.func gbody genv)) := by rw [← hs2]
        have hitg : s2.heap.get? h'.objs.size = some oit := by rw [h2h]; exact Heap.get?_push_size _ (by rw [← hoit]; rfl)
        have hLg : s2.heap.get? genv.locals = some oL := by rw [h2h, hgL]; exact Heap.get?_push_of_some _ gL
        have e2 : Ex s1 s2 := by
          refine ⟨fun z o g => by rw [h2h]; exact Heap.get?_push_of_some _ (hk' z o g), by rw [← hs2], by rw [← hs2]; show s1.toks ≤ s1.toks + 1 + 1 + 1; lia, fun h => by rw [h2g]; exact h.push rfl, fun i x h => ?_⟩
          rw [h2g, Array.getElem?_push]
          split
          · rename_i e; subst e; rw [Array.getElem?_eq_none (Nat.le_refl _)] at h; cases h
          · exact h
        have hgs2 : s2.gens[s1.gens.size]? = some (.fresh (.func gbody genv)) := by rw [h2g]; simp
        have hg0 : s₀.gens[s1.gens.size]? = none := by
          cases q : s₀.gens[s1.gens.size]? with
          | none => rfl
          | some y => have := F1.base.gens _ _ q; rw [Array.getElem?_eq_none (Nat.le_refl _)] at this; cases this
        have F2 : Fm c b env ρ Mo s₀ K _ s2 := F1.moveT (T := fun _ => False) (N := fun z => z = h'.objs.size ∨ z = genv.locals) (D := fun _ => False) (g := s1.gens.size) e2.chg (fun _ q => q.elim) (fun _ q => q.elim) (fun _ q => q.elim) (fun z hz => by
          rcases hz with rfl | rfl
          · exact ⟨fr _ (by rw [hsz']; exact Nat.le_succ _), _, hitg⟩
          · exact ⟨fr _ (by rw [hgL]; exact Nat.le_refl _), _, hLg⟩) (fun _ _ q => q) hg0
        have frN : ∀ z, (z = h'.objs.size ∨ z = genv.locals) → s1.heap.get? z = none := fun z hz => by
          rcases hz with rfl | rfl
          · exact fr _ (by rw [hsz']; exact Nat.le_succ _)
          · exact fr _ (by rw [hgL]; exact Nat.le_refl _)
        have p2 : Pres c M s1 _ s2 := Pres.moveT (T := fun _ => False) (N := fun z => z = h'.objs.size ∨ z = genv.locals) (D := fun _ => False) (g := s1.gens.size) e2.chg (fun _ q => q.elim) frN
        have hTN : ∀ z, Tof [(h'.objs.size, oit), (genv.locals, oL)] z → z = h'.objs.size ∨ z = genv.locals := fun z ⟨o, ho⟩ => by
          simp only [List.mem_cons, List.not_mem_nil, or_false, Prod.mk.injEq] at ho
          rcases ho with ⟨h, _⟩ | ⟨h, _⟩
          · exact .inl h
          · exact .inr h
        have isg : s2.heap.IsGen h'.objs.size s1.gens.size := let ⟨nm, qn, hdt⟩ := hgo.data; ⟨oit, nm, qn, hitg, hgo.cls, hdt, hgo.slots⟩
        have run : W c A (pyIter (.ref h'.objs.size)) (fun it s₂ => codeAny (model c.prog c.w) A (.forLoop target it body orelse env) (fun r s' => match r with | .ok f => Q f s' | .error e => cameBackBy (model c.prog c.w) A env (fun _ _ => False) e s') s₂) s2 := by
          refine wpAny_pyIter_gen isg ?_
          refine gen_run h2 A env Mo s₀ K _ s2 h'.objs.size s1.gens.size [(h'.objs.size, oit), (genv.locals, oL)] _ _ hR F2 gn ?_ ?_ (fun z hz => ?_) (fun q hq hz => ?_) hgs2 hg0 fun fl' s' M' F' hp hf' => k fl' s' M' F' (((Pres.ex e1).trans p2).trans hp) hf'
          · intro q hq
            simp only [List.mem_cons, List.not_mem_nil, or_false] at hq
            rcases hq with rfl | rfl
            · exact hitg
            · exact hLg
          · intro q hq
            simp only [List.mem_cons, List.not_mem_nil, or_false] at hq
            obtain ⟨nm, qn, hdt⟩ := hgo.data
            rcases hq with rfl | rfl
            · exact ⟨(fun v e => by rw [hdt] at e; cases e), (fun xs n e => by rw [hdt] at e; cases e)⟩
            · exact ⟨(fun v e => by rw [dL] at e; cases e), (fun xs n e => by rw [dL] at e; cases e)⟩
          · have h0 := frN z (hTN z hz)
            refine ⟨⟨.inr (hTN z hz), fun q => q⟩, F1.notMo h0, ?_⟩
            rintro rfl
            obtain ⟨o, g⟩ := F1.mlt _ F1.lM
            rw [h0] at g; cases g
          · have h0 := frN _ (hTN _ hz)
            have := (F1.prot q hq).1; rw [h0] at this; cases this
        subst hs2
        subst hoit
        exact run
end
end Mine
end

section
open PySem PySem.W PyProof.Rows
open PySem.Builtin PySem.Builtin.Str
set_option Elab.async false
set_option maxRecDepth 100000
set_option linter.unusedVariables false
set_option autoImplicit false
namespace Mine

section
variable {c : Cx} {d : Nat}

/- a call of a def, up to its body -/
theorem fn_enter {a : Addr} {names : List Str} {body : List Stmt} {scope : Scope} {ps : List PV} (fn : FnAt c a names body scope) (hok : paramsOk names scope = true) (hlen : ps.length = names.length)
    {A : Around} {M Mo : Mut} {s₀ s : Shared} {vs : List Value} {Q : Value → Shared → Prop} (hR : Room (d + 1) A) (B : Base c M s) (hbase : Ex s₀ s) (hmo : ∀ z, Mo z → M z) (hmolt : ∀ z, Mo z → ∃ o, s₀.heap.get? z = some o)
    (hmf : ∀ z, M z → ¬ Mo z → s₀.heap.get? z = none) (hr : Rs c s.heap M ps vs)
    (h : ∀ (A' : Around) (env : Env) (M' : Mut) (s' : Shared), Room d A' → Fm c ⟨scope, cellNames scope⟩ env (names.zip (ps.map .val)) Mo s₀ [] M' s' → Ex s s' → (∀ z, M z → M' z) → (∀ z o, s.heap.get? z = some o → M' z → M z) →
      s.heap.get? env.locals = none → W c A' (execs body env) (fun fl s'' => Q (match fl with | .ret v => v | _ => .none) s'') s') : W c A (call (.ref a) vs) Q s := by
  obtain ⟨o, fd, ho, hd, hbody, hscope, hglob, hblt, hclo, hcd, hbind⟩ := fn.fd
  subst hscope
  simp only [paramsOk, Bool.and_eq_true, decide_eq_true_eq, List.all_eq_true, Bool.not_eq_true', beq_iff_eq] at hok
  obtain ⟨⟨⟨⟨⟨⟨hnd, hcont⟩, hlook⟩, hfree⟩, hco⟩, hgen⟩, hkind⟩ := hok
  have fr : s.heap.get? s.heap.objs.size = none := fresh_none s
  have lo := hR.depth
  refine wpAny_call (codeAny_call_function (by lia) (B.h1 _ _ ho) hd hco hgen hbody (hcd.keeps B.h1) ?_)
  rw [hbind vs (by rw [hr.length, hlen]), hclo]
  refine wpAny_pure (wpAny_toks (wpAny_newFunctionEnv_cells hkind (fun x hx' => ?_) fun env he s₁ X htk => ?_))
  · obtain ⟨hm, _⟩ := List.of_mem_zip hx'
    have h1 := hlook _ hm
    rw [Bool.or_eq_true, beq_iff_eq, beq_iff_eq] at h1
    rcases h1 with h1 | h1
    · exact .inl h1
    · refine .inr ⟨h1, ?_⟩
      obtain ⟨z, hz⟩ := cellsFrom_has fd.scope.names (s.heap.objs.size + 1) [] _ (lookup_mem h1)
      exact lookup_isSome hz
  · have hL : env.locals = s.heap.objs.size := by rw [he]; rfl
    have hsc : env.scope = fd.scope := by rw [he]; rfl
    have hcl : env.cells = cellsFrom (s.heap.objs.size + 1) fd.scope.names [] := by rw [he]; rfl
    have hgl : env.globals = mainGlobals := by rw [he]; exact hglob
    have hbl : env.builtins = builtinsNs := by rw [he]; exact hblt
    have hkd : ∀ x, env.kindOf x = fd.scope.names.lookup x := fun x => by unfold Env.kindOf; rw [hsc]
    obtain ⟨⟨hsame, hns, hkeep, hfresh⟩, hcell, hapart, habove⟩ := X
    obtain ⟨h', tk, rfl⟩ := hsame
    have new : ∀ z, s.heap.objs.size ≤ z → s.heap.get? z = none := fun z hz => by
      cases q : s.heap.get? z with
      | none => rfl
      | some o => exact absurd (Nat.lt_of_lt_of_le (Heap.lt_size q) hz) (Nat.lt_irrefl _)
    have cnew : ∀ x z, env.cells.lookup x = some z → s.heap.get? z = none := fun x z hz => new z (by
      have := habove x z (mem_of_lookup hz); rw [hL] at this; exact Nat.le_of_lt this)
    let M' : Mut := fun z => M z ∨ z = env.locals ∨ ∃ x, env.cells.lookup x = some z
    have nM : ∀ z, s.heap.get? z = none → ¬ M z := fun z hz hm => by obtain ⟨o, g⟩ := B.mlt z hm; rw [hz] at g; cases g
    have hm' : ∀ z o, s.heap.get? z = some o → M' z → M z := fun z o hz hm => by
      rcases hm with hm | rfl | ⟨x, hx⟩
      · exact hm
      · rw [hL, fr] at hz; cases hz
      · rw [cnew x z hx] at hz; cases hz
    have n0 : ∀ z, s.heap.get? z = none → s₀.heap.get? z = none := fun z hz => by
      cases q : s₀.heap.get? z with
      | none => rfl
      | some o => rw [hbase.keep _ _ q] at hz; cases hz
    have hr' : Rs c h' M' ps vs := hr.mono (fun z o _ g => hkeep z o g) hm'
    have h1n : ∀ z, s.heap.get? z = none → c.h1.get? z = none := fun z hz => by
      cases q : c.h1.get? z with
      | none => rfl
      | some o => rw [B.h1 _ _ q] at hz; cases hz
    have slot : ∀ x ov, (∀ v, (names.zip vs).lookup x = some v → ov = some v) → Slot c h' Mo M' ((names.zip (ps.map Bd.val)).lookup x) ov := fun x ov hov => by
      cases q : (names.zip (ps.map Bd.val)).lookup x with
      | none => exact trivial
      | some bd =>
        obtain ⟨p', v, rfl, hv, hrv⟩ := zip_slot hr' q
        exact ⟨v, hov v hv, hrv⟩
    have ex1 : Ex s { s with heap := h', toks := tk } := ⟨hkeep, rfl, htk, fun x => x, fun _ _ e => e⟩
    have F : Fm c ⟨fd.scope, cellNames fd.scope⟩ env (names.zip (ps.map .val)) Mo s₀ [] M' { s with heap := h', toks := tk } := {
      scope := hsc, kind := hkind, glob := hgl, blt := hbl
      base := hbase.trans ex1
      h1 := fun z o g => hkeep z o (B.h1 z o g)
      h1M := fun z hz => by
        rcases hz with hz | rfl | ⟨x, hx⟩
        · exact B.h1M z hz
        · exact h1n _ (by rw [hL]; exact fr)
        · exact h1n _ (cnew x z hx)
      tok := Nat.le_trans B.tok htk
      mo := fun z hz => .inl (hmo z hz)
      mlt := fun z hz => by
        rcases hz with hz | rfl | ⟨x, hx⟩
        · obtain ⟨o, g⟩ := B.mlt z hz; exact ⟨o, hkeep z o g⟩
        · obtain ⟨o, _, _, g, _⟩ := hns; exact ⟨o, g⟩
        · obtain ⟨o, g, _⟩ := hcell x z hx; exact ⟨o, g⟩
      molt := hmolt
      mfresh := fun z hz hmo => by
        rcases hz with hz | rfl | ⟨x, hx⟩
        · exact hmf z hz hmo
        · exact n0 _ (by rw [hL]; exact fr)
        · exact n0 _ (cnew x z hx)
      lM := .inr (.inl rfl)
      lMo := fun q => nM _ (by rw [hL]; exact fr) (hmo _ q)
      ns := by
        refine ⟨_, hns, fun x hx => slot x _ fun v hv => ?_, fun x y a l l' _ e1 => ?_⟩
        · rw [bindL_zip _ _ _ _ _ hnd (by rw [hkd]; exact hx), hv]; rfl
        · obtain ⟨p', v, e, _⟩ := zip_slot hr' e1; cases e
      ownl := fun x l e => by obtain ⟨p', v, e', _⟩ := zip_slot hr' e; cases e'
      cells := fun x hx => by
        have hx' : fd.scope.names.lookup x = some .cell := by
          rcases hx with hx | hx
          · exact hx
          · have := hfree _ (lookup_mem hx); simp at this
        obtain ⟨z, hz⟩ := cellsFrom_has fd.scope.names (s.heap.objs.size + 1) [] _ (lookup_mem hx')
        obtain ⟨a', ha'⟩ := Option.isSome_iff_exists.mp (lookup_isSome hz)
        have hlk : env.cells.lookup x = some a' := by rw [hcl]; exact ha'
        refine ⟨a', _, hlk, .inr (.inr ⟨x, hlk⟩), hcell x a' hlk, slot x _ fun v hv => ?_⟩
        rw [bindC_zip _ _ _ _ _ hnd (by rw [hkd, hx']; decide), hv]; rfl
      cdist := hapart
      cmo := fun x z _ hz q => nM _ (cnew x z hz) (hmo _ q)
      prot := fun q hq => by cases hq }
    refine ⟨fn.lim.keeps F.h1, codeAny_func (wpAny_mono (E := fun _ _ => False) (h (A.deeper env) env M' _ ⟨hR.handled, ?_, ?_⟩ F ex1 (fun z hz => .inl hz) hm' (by rw [hL]; exact fr)) (fun fl s' hq => ?_) fun _ _ q => q.elim)⟩
    · rw [depth_deeper]; lia
    · have := hR.units; rw [units_deeper]; lia
    · exact hq
theorem fn_call {a : Addr} {names : List Str} {body : List Stmt} {scope : Scope} {ps : List PV} {p : PV} {ρ' : Rho} (fn : FnAt c a names body scope) (hok : paramsOk names scope = true) (hlen : ps.length = names.length)
    (hx : Exec c ⟨scope, cellNames scope⟩ d body (names.zip (ps.map .val)) (.ret p) ρ') : Op c (d + 1) (fun vs => call (.ref a) vs) ps p := .mk fun A M s vs Q hR B hr h =>
  fn_enter fn hok hlen (Mo := M) (s₀ := s) hR B (Ex.refl s) (fun _ m => m) (fun z m => B.mlt z m) (fun z m hn => absurd m hn) hr fun A' env M' s' hR' F' ex hsub hback hL =>
    hx.run A' env M s [] M' s' _ hR' F' fun fl s'' M'' F'' hp hf => by
      obtain ⟨v, rfl, hrv⟩ := hf
      exact h v s'' F''.base (hrv.mono (fun z o _ g => g) fun z o _ hm => F''.mo z hm)
end
end Mine
end

section
open PySem PySem.W PyProof.Rows
open PySem.Builtin PySem.Builtin.Str
set_option Elab.async false
set_option maxRecDepth 100000
set_option linter.unusedVariables false
set_option autoImplicit false
namespace Mine

/- the class -/
structure Cls (c : Cx) (N : Addr) (mN : Str → Option Value) : Prop where
  at' : ClsAt c.h1 c.C N mN
  ga : mN "__getattribute__" = none
  gt : mN "__getattr__" = none
  sa : mN "__setattr__" = none

section
variable {c : Cx} {b : Blk} {d : Nat} {ρ : Rho}

theorem R.handed {h : Heap} {M : Mut} {p : PV} {v : Value} (r : R c h M p v) : handedOut v = pure v := by
  cases r <;> rfl

theorem zip_lookup {h : Heap} {M : Mut} : ∀ {ns : List Str} {l : List PV} {vs : List Value} {x : Str} {p : PV}, Rs c h M l vs → (ns.zip l).lookup x = some p → ∃ v, (ns.zip vs).lookup x = some v ∧ R c h M p v
  | [], _, _, _, _, _, e => by simp at e
  | _ :: _, _, _, _, _, .nil, e => by simp at e
  | y :: r, _, _, x, p, .cons h1 h2, e => by
    simp only [List.zip_cons_cons, List.lookup_cons] at e ⊢
    by_cases q : x = y
    · subst q; simp at e; subst e; exact ⟨_, by simp, h1⟩
    · rw [beq_eq_false_iff_ne.mpr q] at e ⊢
      exact zip_lookup h2 e

theorem obj_load {N : Addr} {mN : Str → Option Value} (hC : Cls c N mN) {A : Around} {M : Mut} {s : Shared} {ns : List Str} {l : List PV} {v : Value} {attr : Str} {p : PV} {expr : Bool} {Q : Value → Shared → Prop} (B : Base c M s) (r : R c s.heap M (.obj ns l) v)
    (hp : (ns.zip l).lookup attr = some p) (hna : mN attr = none) (hB : typeLookup (.type "object") attr = pure none) (k : ∀ u s', Ex s s' → R c s'.heap M p u → Q u s') : W c A (getAttr v attr expr) Q s := by
  cases r with
  | @obj a dx o ns l vs m ha hd hda hg hcl hdc hnc hn hx hs =>
    obtain ⟨u, hu, ru⟩ := zip_lookup hs hp
    have X := hC.at'.keeps B.h1
    obtain ⟨nm, q, bs, sn, sub, col, dd, k0, k1, k2, k3, k5, hobj⟩ := X.obj
    obtain ⟨hh, g, dr, t, os⟩ := s
    exact load_attr hobj X.ns hC.ga hna hB ⟨o, hg, hcl, hnc, .inr ⟨dx, hdc, hda, hn⟩⟩ (by rw [hx]; exact hu) ru.handed (k u _ (Ex.tok _ _ (Nat.le_succ _)) ru)

theorem ev_attr {N : Addr} {mN : Str → Option Value} (hC : Cls c N mN) {n attr : Str} {np pos : Pos} {ns : List Str} {l : List PV} {p : PV} (h0 : Eval c b d (.Name n np) ρ (.obj ns l)) (hp : (ns.zip l).lookup attr = some p) (hna : mN attr = none)
    (hB : typeLookup (.type "object") attr = pure none) : Eval c b d (.Attribute (.Name n np) attr pos) ρ p := .mk fun A env Mo s₀ K M s Q hR F h =>
  Attribute_name (h0.run A env Mo s₀ K M s _ hR F fun v s' e r => obj_load hC (F.ex e).toBase r hp hna hB fun u s'' e' ru => h u s'' (e.trans e') ru)

theorem ev_attr_any {N : Addr} {mN : Str → Option Value} (hC : Cls c N mN) {o : Expr} {attr : Str} {pos : Pos} {ns : List Str} {l : List PV} {p : PV} (h0 : Eval c b d o ρ (.obj ns l)) (hp : (ns.zip l).lookup attr = some p) (hna : mN attr = none)
    (hB : typeLookup (.type "object") attr = pure none) (he : ∀ env, eval (.Attribute o attr pos) env = (do
      let v ← eval o env
      standAt pos.atName
      let r ← holding [v] (getAttr v attr true)
      letTemporaryGo o v r
      pure r)) : Eval c b d (.Attribute o attr pos) ρ p := .mk fun A env Mo s₀ K M s Q hR F h =>
  Attribute_any_ (h0.run A env Mo s₀ K M s _ hR F fun v s' e r => obj_load hC (F.ex e).toBase r hp hna hB fun u s'' e' ru => h u s'' (e.trans e') ru) (he env)

theorem ev_methO {N : Addr} {mN : Str → Option Value} (hC : Cls c N mN) {o : Expr} {name : Str} {apos pos : Pos} {es : List Expr} {ns : List Str} {l ps : List PV} {r : PV} {f : Addr} {of : Obj} {fd : FuncData} {y : Option Value}
    (hf : mN name = some (.ref f)) (hfo : c.h1.get? f = some of) (hfc : of.cls = .type "function") (hfd : of.data = .func fd) (hB : typeLookup (.type "object") name = pure y) (hsh : ns.contains name = false)
    (h0 : Eval c b d o ρ (.obj ns l)) (h1 : Evals c b d es ρ ps) (op : Op c d (fun vs => call (.ref f) vs) (.obj ns l :: ps) r)
    (hbase : ∀ env, attributeBase o name env (eval o env) = eval o env) (hline : (apos.endLine == pos.line) = true) (hpl : plainArgs es = true) (hfew : es.length < 30) :
    Eval c b d (.Call (.Attribute o name apos) es [] pos) ρ r := .mk fun A env Mo s₀ K M s Q hR F h => by
  rw [arm_eval_Call, hbase]
  refine wpAny_bind (h0.run A env Mo s₀ K M s _ hR F fun v s' e hr => wpAny_bind (wpAny_standAt ?_))
  have hform : methodCallForm (es.length + ([] : List Keyword).length) (backTo pos (starEach es env)) (backToKw pos (keywordEach [] env)) = true := by
    exact few_args hpl hfew
  have hpos : methodCallPos true o env apos pos = pure pos := by unfold methodCallPos; simp [hline]
  unfold methodCall
  rw [hform]
  have F' := F.ex e
  have hr0 := hr
  cases hr with
  | @obj a dx oo ns l vs m ha hd hda hg hcl hdc hnc hn hx hs =>
    have X := hC.at'.keeps F'.h1
    obtain ⟨nm, q, bs, sn, sub, col, dd, k0, k1, k2, k3, k5, hobj⟩ := X.obj
    obtain ⟨hh, g, dr, t, os⟩ := s'
    have hnone : m name = none := by rw [hx]; exact lookup_zip_none fun q => by rw [List.contains_iff_mem.mpr q] at hsh; cases hsh
    refine wpAny_bind (wpAny_holding (method_of hobj X.ns hC.ga hC.gt hf (F'.h1 _ _ hfo) hfc hB ⟨oo, hg, hcl, hnc, .inr ⟨dx, hdc, hda, hn⟩⟩ hnone ?_))
    refine wpAny_bind (wpAny_of_eq hpos ?_)
    exact callWith_ok (first := [.ref a]) (.inr (.inr ⟨f, of, fd, rfl, hfo, hfd⟩)) h1 hpl hR F' fun vs' s2 e2 hrs => op.run A M s2 (.ref a :: vs') Q hR (F'.ex e2).toBase (.cons (hr0.ex e2) hrs) fun u s3 e3 ru => h u s3 ((e.trans e2).trans e3) ru
end
end Mine
end

section
open PySem PySem.W PyProof.Rows
open PySem.Builtin PySem.Builtin.Str
set_option Elab.async false
set_option maxRecDepth 100000
set_option linter.unusedVariables false
set_option autoImplicit false
namespace Mine

section
variable {c : Cx} {b : Blk} {d : Nat} {ρ : Rho}

/- an instance that is being made -/
structure InstSt (c : Cx) (x : Addr) (ox : Obj) (dx L : Addr) (I : List (Str × PV)) (Mo M : Mut) (s : Shared) : Prop where
  self : R c s.heap M (.raw x ox) (.ref x)
  cls : ox.cls = .ref c.C
  dict : ox.dict = some dx
  data : ∀ k, ox.data ≠ .cls k
  ne : dx ≠ x
  m : M dx
  mo : ¬ Mo dx
  apart : dx ≠ L
  ns : ∃ m vs, s.heap.Ns1 dx m ∧ (∀ y, m y = ((I.map (·.1)).zip vs).lookup y) ∧ Rs c s.heap M (I.map (·.2)) vs

structure ExecI (c : Cx) (b : Blk) (d : Nat) (x : Addr) (ox : Obj) (dx : Addr) (ss : List Stmt) (ρ : Rho) (I : List (Str × PV)) (f : Fl) (ρ' : Rho) (I' : List (Str × PV)) : Prop where
  run : ∀ (A : Around) (env : Env) (Mo : Mut) (s₀ : Shared) (K : List (Addr × Obj)) (M : Mut) (s : Shared) (Q : Flow → Shared → Prop), Room d A → Fm c b env ρ Mo s₀ K M s → InstSt c x ox dx env.locals I Mo M s → (∀ p ∈ K, p.1 ≠ dx) →
    (∀ fl s' M', Fm c b env ρ' Mo s₀ K M' s' → InstSt c x ox dx env.locals I' Mo M' s' → Pres c M s M' s' → FlR c s'.heap M' f fl → Q fl s') → W c A (execs ss env) Q s
structure ExecI1 (c : Cx) (b : Blk) (d : Nat) (x : Addr) (ox : Obj) (dx : Addr) (st : Stmt) (ρ : Rho) (I : List (Str × PV)) (f : Fl) (ρ' : Rho) (I' : List (Str × PV)) : Prop where
  run : ∀ (A : Around) (env : Env) (Mo : Mut) (s₀ : Shared) (K : List (Addr × Obj)) (M : Mut) (s : Shared) (Q : Flow → Shared → Prop), Room d A → Fm c b env ρ Mo s₀ K M s → InstSt c x ox dx env.locals I Mo M s → (∀ p ∈ K, p.1 ≠ dx) →
    (∀ fl s' M', Fm c b env ρ' Mo s₀ K M' s' → InstSt c x ox dx env.locals I' Mo M' s' → Pres c M s M' s' → FlR c s'.heap M' f fl → Q fl s') → W c A (exec st env) Q s

variable {x : Addr} {ox : Obj} {dx : Addr}

theorem execI_nil {I : List (Str × PV)} : ExecI c b d x ox dx [] ρ I .next ρ I := .mk fun _ _ _ _ _ _ _ _ _ F hi _ h => wpAny_execs_nil (h _ _ _ F hi (Pres.refl _ _ _) rfl)
theorem execI_cons {st : Stmt} {ss : List Stmt} {ρ₁ ρ' : Rho} {I I₁ I' : List (Str × PV)} {f : Fl} (h1 : ExecI1 c b d x ox dx st ρ I .next ρ₁ I₁) (h2 : ExecI c b d x ox dx ss ρ₁ I₁ f ρ' I') : ExecI c b d x ox dx (st :: ss) ρ I f ρ' I' :=
  .mk fun A env Mo s₀ K M s Q hR F hi hK h => by
    refine wpAny_execs_cons (h1.run A env Mo s₀ K M s _ hR F hi hK fun fl s' M' F' hi' hp hf => ?_)
    have : fl = .next := hf
    subst this
    exact h2.run A env Mo s₀ K M' s' Q hR F' hi' hK fun fl s'' M'' F'' hi'' hp' hf' => h fl s'' M'' F'' hi'' (hp.trans hp') hf'

theorem InstSt.held {L : Addr} {I : List (Str × PV)} {Mo M : Mut} {s : Shared} (h : InstSt c x ox dx L I Mo M s) : ∃ od, s.heap.get? dx = some od ∧ Held L dx od ∧
    ∀ {M' : Mut} {s' : Shared}, Pres c M s M' s' → s'.heap.get? dx = some od → M' dx → InstSt c x ox dx L I Mo M' s' := by
  obtain ⟨m, vs, ⟨od, es, ep, g, hd, hk, hu, hf⟩, hm, hr⟩ := h.ns
  refine ⟨od, g, ⟨h.apart, (fun v e => by rw [hd] at e; cases e), (fun xs n e => by rw [hd] at e; cases e)⟩, fun hp hg hM => ?_⟩
  exact ⟨hp _ _ h.self, h.cls, h.dict, h.data, h.ne, hM, h.mo, h.apart, m, vs, ⟨od, es, ep, hg, hd, hk, hu, hf⟩, hm, hp.rs hr⟩

theorem exI_lift {st : Stmt} {ρ' : Rho} {I : List (Str × PV)} {f : Fl} (h1 : Exec1 c b d st ρ f ρ') : ExecI1 c b d x ox dx st ρ I f ρ' I := .mk fun A env Mo s₀ K M s Q hR F hi hK h => by
  obtain ⟨od, hg, hh, back⟩ := hi.held
  refine h1.run A env Mo s₀ ((dx, od) :: K) M s Q hR (F.toprot ⟨hg, hi.m, hh⟩) fun fl s' M' F' hp hf => ?_
  have pr := F'.prot _ List.mem_cons_self
  exact h fl s' M' F'.unprot (back hp pr.1 pr.2.1) hp hf

theorem obj_ext {o o' : Obj} (h1 : o'.cls = o.cls) (h2 : o'.data = o.data) (h3 : o'.slots = o.slots) (h4 : o'.dict = o.dict) : o' = o := by
  cases o; cases o'; simp only at h1 h2 h3 h4; subst h1 h2 h3 h4; rfl

theorem exI_store {N : Addr} {mN : Str → Option Value} (hC : Cls c N mN) {sf attr : Str} {p1 apos spos : Pos} {e : Expr} {p : PV} {I : List (Str × PV)} (hself : ρ.lookup sf = some (.val (.raw x ox))) (hrd : readable b sf = true) (h1 : Eval c b d e ρ p)
    (hna : mN attr = none) (hB : typeLookup (.type "object") attr = pure none) (hnew : attr ∉ I.map (·.1)) (hsz : I.length ≤ 1000) (hsw : ∀ line env, swapsWith e (some (.Attribute (.Name sf p1) attr apos)) line env = pure false) :
    ExecI1 c b d x ox dx (.Assign [.Attribute (.Name sf p1) attr apos] e spos) ρ I .next ρ (I ++ [(attr, p)]) := .mk fun A env Mo s₀ K M s Q hR F hi hK h => by
  refine plainObj_wpAny_Assign_Attribute (h1.run A env Mo s₀ K M s _ hR F fun v s1 e1 r1 => ?_) (hsw _ _)
  have F1 := F.ex e1
  refine (ev_name (c := c) (b := b) (d := d) hself hrd).run A env Mo s₀ K M s1 _ hR F1 fun u s2 e2 r2 => ?_
  have F2 := F1.ex e2
  obtain ⟨od, hg, hh, back⟩ := hi.held
  have e12 := e1.trans e2
  have i2 := back (Pres.ex e12) (e12.keep _ _ hg) hi.m
  have hx := i2.self
  cases r2 with
  | raw hM hgx =>
    obtain ⟨m, vs, hns, hm, hr⟩ := i2.ns
    have X := hC.at'.keeps F2.h1
    obtain ⟨nm, q, bs, sn, sub, col, dd, k0, k1, k2, k3, k5, hobj⟩ := X.obj
    have hxC : x ≠ c.C := by
      rintro rfl
      rw [hobj] at hgx
      cases hgx
      exact i2.data _ rfl
    have hlen := hr.length
    have hw : Within m (I.map (·.1)) := fun y hy => by
      rw [hm] at hy
      by_cases hin : y ∈ I.map (·.1)
      · exact hin
      · exact absurd (lookup_zip_none hin) hy
    obtain ⟨hh2, g2, dr2, t2, os2⟩ := s2
    refine wpAny_toks (store_attr PySem.F.store_object hobj X.ns hC.sa hna hB hxC ⟨ox, hgx, i2.cls, i2.data, .inr ⟨dx, i2.dict, i2.ne, hns⟩⟩ (fun h' tk' I' hk hsame htk => ?_) hw (by simp [sizeLine]; lia))
    obtain ⟨o₁, g₁, c₁, d₁, s₁, dk⟩ := hsame ox hgx
    have ho₁ : o₁ = ox := obj_ext c₁ d₁ s₁ ((dk dx i2.dict).trans i2.dict.symm)
    subst ho₁
    obtain ⟨o₂, g₂, _, _, hd₂⟩ := I'
    rw [g₁] at g₂
    cases g₂
    have hns' : h'.Ns1 dx (fun y => if y = attr then some v else m y) := by
      rcases hd₂ with ⟨hn0, _⟩ | ⟨d', hd', _, hns'⟩
      · rw [i2.dict] at hn0; cases hn0
      · rw [i2.dict] at hd'; cases hd'; exact hns'
    have keep : ∀ z o, z ≠ dx → hh2.get? z = some o → h'.get? z = some o := fun z o hz g => by
      by_cases hzx : z = x
      · subst hzx; rw [hgx] at g; cases g; exact g₁
      · refine hk z o hzx (fun o₀ d' e₀ ed => ?_) g
        rw [hgx] at e₀; cases e₀; rw [i2.dict] at ed; cases ed; exact hz
    have hch : Chg (fun z => z = dx) s₀.gens.size ⟨hh2, g2, dr2, t2, os2⟩ ⟨h', g2, dr2, tk', os2⟩ := ⟨keep, rfl, htk, fun y => y, fun _ _ _ y => y⟩
    obtain ⟨od', hdl⟩ : ∃ o, h'.get? dx = some o := let ⟨o, _, _, g, _⟩ := hns'; ⟨o, g⟩
    have F3 := F2.moveT (N := fun _ => False) (D := fun _ => False) hch (fun z hz => by subst hz; exact ⟨i2.m, i2.mo, od, e12.keep _ _ hg, hh⟩) (fun _ q => q.elim) (fun z hz _ => by subst hz; exact ⟨_, hdl⟩) (fun _ q => q.elim) hK (Array.getElem?_eq_none (Nat.le_refl _))
    have p3 : Pres c M _ _ _ := Pres.moveT (c := c) (N := fun _ => False) (D := fun _ => False) hch (fun z hz => by subst hz; exact i2.m) (fun _ q => q.elim)
    refine h .next _ _ F3 ⟨p3 _ _ hx, i2.cls, i2.dict, i2.data, i2.ne, ⟨.inl i2.m, fun q => q⟩, i2.mo, i2.apart, _, vs ++ [v], hns', fun y => ?_, ?_⟩ (((Pres.ex e12).trans p3)) rfl
    · simp only [List.map_append, List.map_cons, List.map_nil]
      rw [List.zip_append (by rw [hlen]; simp), lookup_append]
      by_cases hy : y = attr
      · subst hy
        rw [lookup_zip_none hnew]; simp
      · rw [if_neg hy, hm]
        simp only [List.zip_cons_cons, List.zip_nil_right, List.lookup_cons, beq_eq_false_iff_ne.mpr hy, List.lookup_nil]
        cases (List.lookup y ((I.map (·.1)).zip vs)) <;> rfl
    · simp only [List.map_append, List.map_cons, List.map_nil]
      exact (p3.rs hr).append (.cons (p3 _ _ (r1.ex e2)) .nil)

theorem exI_for {N : Addr} {mN : Str → Option Value} (hC : Cls c N mN) {sf attr : Str} {p1 apos spos : Pos} {target : Expr} {body orelse : List Stmt} {p : PV} {I : List (Str × PV)} {f : Fl} {ρ' : Rho} (hself : ρ.lookup sf = some (.val (.raw x ox))) (hrd : readable b sf = true)
    (hp : ((I.map (·.1)).zip (I.map (·.2))).lookup attr = some p) (hna : mN attr = none) (hB : typeLookup (.type "object") attr = pure none) (hit : iterable p) (h2 : ForEx c b d target body orelse (itemsOf p) ρ f ρ') :
    ExecI1 c b d x ox dx (.For target (.Attribute (.Name sf p1) attr apos) body orelse spos) ρ I f ρ' I := .mk fun A env Mo s₀ K M s Q hR F hi hK h => by
  refine wpAny_For (Attribute_name ((ev_name (c := c) (b := b) (d := d) hself hrd).run A env Mo s₀ K M s _ hR F fun u s2 e2 r2 => ?_)) (fun _ => rfl)
  have F2 := F.ex e2
  obtain ⟨od, hg, hh, back⟩ := hi.held
  have i2 := back (Pres.ex e2) (e2.keep _ _ hg) hi.m
  cases r2 with
  | raw hM hgx =>
    obtain ⟨m, vs, hns, hm, hr⟩ := i2.ns
    obtain ⟨w, hw, rw'⟩ := zip_lookup hr hp
    have X := hC.at'.keeps F2.h1
    obtain ⟨nm, q, bs, sn, sub, col, dd, k0, k1, k2, k3, k5, hobj⟩ := X.obj
    obtain ⟨hh2, g2, dr2, t2, os2⟩ := s2
    refine load_attr hobj X.ns hC.ga hna hB ⟨ox, hgx, i2.cls, i2.data, .inr ⟨dx, i2.dict, i2.ne, hns⟩⟩ (by rw [hm]; exact hw) rw'.handed ?_
    have e3 : Ex ⟨hh2, g2, dr2, t2, os2⟩ ⟨hh2, g2, dr2, t2 + 1, os2⟩ := Ex.tok _ _ (Nat.le_succ _)
    have F3 := (F2.ex e3).toprot (p := (dx, od)) ⟨e3.keep _ _ (e2.keep _ _ hg), hi.m, hh⟩
    refine iter_new F3.toBase hit (rw'.ex e3) fun it s4 I4 e4 hfr hI hl hi4 => ?_
    refine h2.run A env Mo s₀ _ _ s4 it I4 _ hI hR (F3.addM e4 hfr hl) (.inr rfl) (F3.notMo hfr) (fun q hq e => ?_) hi4 fun fl s' M' F' hp' hf' => ?_
    · have := (F3.prot q hq).1; rw [e, hfr] at this; cases this
    · have pr := F'.prot _ List.mem_cons_self
      have pp : Pres c M s M' s' := fun q u r => hp' q u (((r.ex e2).ex e3).addM e4.keep hfr)
      exact h fl s' M' F'.unprot (back pp pr.1 pr.2.1) pp hf'
end
end Mine
end

section
open PySem PySem.W PyProof.Rows
open PySem.Builtin PySem.Builtin.Str
set_option Elab.async false
set_option maxRecDepth 100000
set_option linter.unusedVariables false
set_option autoImplicit false
namespace Mine

section
variable {c : Cx} {b : Blk} {d : Nat} {ρ : Rho}

theorem ev_new {N : Addr} {mN : Str → Option Value} (hC : Cls c N mN) {fI : Addr} {oI : Obj} {f sf wf : Str} {pf pos : Pos} {e : Expr} {p : PV} {body : List Stmt} {scope : Scope} {ρ' : Rho} {I : List (Str × PV)} (hi : mN "__init__" = some (.ref fI))
    (hfI : c.h1.get? fI = some oI) (hfc : oI.cls = .type "function") (fn : FnAt c fI [sf, wf] body scope) (hok : paramsOk [sf, wf] scope = true) (hk : isGlob b f = true) (hg : GlobV c f (.ref c.C)) (h1 : Eval c b (d + 2) e ρ p) (he : isStar e = false)
    (hinit : ∀ x ox dx, ExecI c ⟨scope, cellNames scope⟩ d x ox dx body [(sf, .val (.raw x ox)), (wf, .val p)] [] .next ρ' I) :
    Eval c b (d + 2) (.Call (.Name f pf) [e] [] pos) ρ (.obj (I.map (·.1)) (I.map (·.2))) := .mk fun A env Mo s₀ K M s Q hR F h => by
  simp only [isGlob, Bool.and_eq_true, beq_iff_eq, Bool.not_eq_true'] at hk
  refine Call_Name rfl (wpAny_Name (F.loadG hk.1 hg ?_) hk.2)
  refine callWith_cls (h₀ := c.h1) hC.at' ?_ (starEach_cons he _ _) rfl
  refine (evs_cons (c := c) (b := b) (d := d + 2) h1 evs_nil he).run A env Mo s₀ K M s pos _ hR F fun vs s1 e1 r1 hvl => ?_
  have F1 := F.ex e1
  refine ⟨F1.h1, ?_⟩
  have X := hC.at'.keeps F1.h1
  obtain ⟨nm, q, bs, sn, sub, col, dd, k0, k1, k2, k3, k5, hobj⟩ := X.obj
  obtain ⟨hh, g, dr, t, os⟩ := s1
  refine wpAny_call_obj_init PySem.F.objNew hobj X.ns hi (F1.h1 _ _ hfI) hfc fun h' x dx Mk => ?_
  obtain ⟨ox, hgx, hcx, hncx, hdx⟩ := Mk.inst
  have hdd := Mk.dict ox hgx
  obtain ⟨hne, hns⟩ : dx ≠ x ∧ h'.Ns1 dx fun _ => none := by
    rcases hdx with ⟨hn0, _⟩ | ⟨d', hd', hne', hns'⟩
    · rw [hn0] at hdd; cases hdd
    · rw [hdd] at hd'; cases hd'; exact ⟨hne', hns'⟩
  have hdl : ∃ o, h'.get? dx = some o := by obtain ⟨o, _, _, g, _⟩ := hns; exact ⟨o, g⟩
  have ex1 : Ex ⟨hh, g, dr, t, os⟩ ⟨h', g, dr, t, os⟩ := ⟨Mk.keeps, rfl, Nat.le_refl _, fun y => y, fun _ _ y => y⟩
  have nM : ∀ z, hh.get? z = none → ¬ M z := fun z hz hm => by obtain ⟨o, g⟩ := F1.mlt z hm; rw [show hh.get? z = some o from g] at hz; cases hz
  have h1n : ∀ z, hh.get? z = none → c.h1.get? z = none := fun z hz => by
    cases q : c.h1.get? z with
    | none => rfl
    | some o => rw [show hh.get? z = some o from F1.h1 _ _ q] at hz; cases hz
  have B1 : Base c (fun z => M z ∨ z = dx) ⟨h', g, dr, t, os⟩ := ⟨fun z o q => Mk.keeps _ _ (F1.h1 z o q), fun z hz => hz.elim (F1.h1M z) fun q => by subst q; exact h1n _ Mk.newD, F1.tok, fun z hz => by
    rcases hz with hz | rfl
    · obtain ⟨o, g⟩ := F1.mlt z hz; exact ⟨o, Mk.keeps _ _ g⟩
    · exact hdl⟩
  have hM1 : ∀ z o, hh.get? z = some o → (M z ∨ z = dx) → M z := fun z o hz hm => by
    rcases hm with hm | rfl
    · exact hm
    · rw [Mk.newD] at hz; cases hz
  have nx : ¬ (M x ∨ x = dx) := fun q => q.elim (nM _ Mk.newX) fun q => hne q.symm
  have hR1 : Room (d + 1) (A.under (.builtin "type.__call__" ⟨.ref c.C :: vs, []⟩)) := by
    refine ⟨hR.handled, ?_, ?_⟩
    · have := hR.depth
      show A.depth + 1 + 8 * (d + 1) < recursionLimit
      lia
    · have := hR.units
      show A.units + 1 + 60 * (d + 1) + 100 < cLine
      lia
  refine fn_enter (ps := [.raw x ox, p]) fn hok rfl (Mo := M) (s₀ := ⟨hh, g, dr, t, os⟩) hR1 B1 ex1 (fun z hz => .inl hz) (fun z hz => F1.mlt z hz) (fun z hz hmo => by
    rcases hz with hz | rfl
    · exact absurd hz hmo
    · exact Mk.newD) (.cons (.raw nx hgx) (r1.mono (fun z o _ q => Mk.keeps z o q) hM1)) fun A' env' M' s' hR' F' ex' hsub hback hL => ?_
  have hpr : Pres c (fun z => M z ∨ z = dx) ⟨h', g, dr, t, os⟩ M' s' := fun q u r => r.mono (fun z o _ g => ex'.keep z o g) hback
  refine (hinit x ox dx).run A' env' M ⟨hh, g, dr, t, os⟩ [] M' s' _ hR' F' ⟨hpr _ _ (.raw nx hgx), hcx, hdd, hncx, hne, hsub _ (.inr rfl), nM _ Mk.newD, ?_, _, [], hns.at fun o q => ex'.keep _ _ q, fun y => rfl, .nil⟩ (fun q hq => by cases hq) fun fl s'' M'' F'' hi'' hp'' hf'' => ?_
  · rintro rfl
    obtain ⟨o, q⟩ := hdl
    rw [show h'.get? env'.locals = none from hL] at q; cases q
  · have : fl = .next := hf''
    subst this
    refine ⟨rfl, ?_⟩
    obtain ⟨m, vs', hns', hm, hrs⟩ := hi''.ns
    have hx'' := hi''.self
    cases hx'' with
    | raw hnx hgx'' =>
      refine h (.ref x) s'' (e1.trans F''.base) (.obj (nM _ Mk.newX) (nM _ Mk.newD) hi''.ne hgx'' hi''.cls hi''.dict hi''.data hns' hm (hrs.mono (fun z o _ g => g) fun z o _ q => F''.mo z q))
end
end Mine
end

section
open PySem PySem.W PyProof.Rows
open PySem.Builtin PySem.Builtin.Str
set_option Elab.async false
set_option maxRecDepth 100000
set_option linter.unusedVariables false
set_option autoImplicit false
namespace Mine

section
variable {c : Cx} {b : Blk} {d : Nat} {ρ : Rho}

/- a value that the class itself holds -/
noncomputable def ClsAttr (c : Cx) (attr : Str) (v : Value) : Prop := ∀ (A : Around) (s : Shared) (expr : Bool) (Q : Value → Shared → Prop), Keep c.h1 s.heap → Q v { s with toks := s.toks + 1 } → W c A (getAttr (.ref c.C) attr expr) Q s
theorem clsAttr_of {K : Frag} {mc : Value} {attr : Str} {v : Value} (hX : ∀ h, Keep c.h1 h → K.In h) (hr : readsIn K c.C mc = true) (e : findCls K (.ref c.C) mc attr = some (.val v)) (hh : handedIn v = true) : ClsAttr c attr v :=
  fun A s expr Q hk h => cls_value (hX _ hk) hr e hh h

theorem ev_cattr {f attr : Str} {pf pos : Pos} {l : List Nat} {t : Tok} (hk : isGlob b f = true) (hg : GlobV c f (.ref c.C)) (ha : ClsAttr c attr (.str (txt l) t)) : Eval c b d (.Attribute (.Name f pf) attr pos) ρ (.str l) := .mk fun A env Mo s₀ K M s Q hR F h => by
  simp only [isGlob, Bool.and_eq_true, beq_iff_eq, Bool.not_eq_true'] at hk
  exact Attribute_name (wpAny_Name (F.loadG hk.1 hg (ha A s true Q F.h1 (h _ _ (Ex.tok s (s.toks + 1) (Nat.le_succ _)) (.str l t)))) hk.2)

/- several targets take one value -/
inductive BindAll (c : Cx) (b : Blk) (d : Nat) (p : PV) : List Expr → Rho → Rho → Prop
  | one {t : Expr} {ρ ρ' : Rho} : Bind c b d t p ρ ρ' → BindAll c b d p [t] ρ ρ'
  | cons {t t' : Expr} {ts : List Expr} {ρ ρ₁ ρ' : Rho} : Bind c b d t p ρ ρ₁ → BindAll c b d p (t' :: ts) ρ₁ ρ' → BindAll c b d p (t :: t' :: ts) ρ ρ'
theorem bindAll_ok {A : Around} {env : Env} {Mo : Mut} {s₀ : Shared} {K : List (Addr × Obj)} {M : Mut} {v : Value} {p : PV} {ts : List Expr} {ρ ρ' : Rho} (h : BindAll c b d p ts ρ ρ') (hR : Room d A) : ∀ {s : Shared} {Q : Unit → Shared → Prop}, Fm c b env ρ Mo s₀ K M s → R c s.heap M p v →
    (∀ s', Fm c b env ρ' Mo s₀ K M s' → Pres c M s M s' → Q () s') → W c A (assignAll v (ts.map fun t => assign t env)) Q s := by
  induction h with
  | one h => exact fun F hr k => h.run A env Mo s₀ K M _ v _ hR F hr fun s' F' hp _ => k s' F' hp
  | cons h _ ih =>
    intro s Q F hr k
    refine wpAny_bind (wpAny_holding (h.run A env Mo s₀ K M _ v _ hR F hr fun s' F' hp _ => ?_))
    exact ih F' (hp _ _ hr) fun s'' F'' hp' => k s'' F'' (hp.trans hp')

theorem ex_assign_all {ts : List Expr} {value : Expr} {pos : Pos} {p : PV} {ρ' : Rho} (h1 : Eval c b d value ρ p) (h2 : BindAll c b d p ts ρ ρ') (hst : ts.all (fun t => !isStar t) = true) (hs : ∀ line env, swapsWithSole ts value line env = pure false)
    (hw : ∀ env : Env, swappedStores ts value env = pure none) : Exec1 c b d (.Assign ts value pos) ρ .next ρ' := .mk fun A env Mo s₀ K M s Q hR F h => by
  refine wpAny_Assign_stores (h1.run A env Mo s₀ K M s _ hR F fun v s' e r => ?_) (hs _ _) (hw _)
  rw [assignEach_map hst, List.map_map]
  exact bindAll_ok h2 hR (F.ex e) r fun s'' F'' hp => h _ _ _ F'' ((Pres.ex e).trans hp) rfl

noncomputable def rsets : Rho → List Str → List PV → Rho
  | ρ, n :: ns, p :: ps => rsets (rset ρ n (.val p)) ns ps
  | ρ, _, _ => ρ
theorem storeAll {A : Around} {env : Env} {Mo : Mut} {s₀ : Shared} {K : List (Addr × Obj)} {M : Mut} : ∀ {names : List Str} {ps : List PV} {vs : List Value} {ρ : Rho} {s : Shared} {Q : Unit → Shared → Prop}, names.all (fun n => storable b n) = true →
    Fm c b env ρ Mo s₀ K M s → Rs c s.heap M ps vs → (∀ s', Fm c b env (rsets ρ names ps) Mo s₀ K M s' → Pres c M s M s' → Q () s') → W c A (assignInOrder (names.map fun n => bindName env n) vs) Q s
  | [], ps, vs, ρ, s, Q, _, F, hr, k => by
    cases hr with
    | nil => exact wpAny_pure (k s F (Pres.refl _ _ _))
    | cons _ _ => exact wpAny_pure (k s F (Pres.refl _ _ _))
  | n :: ns, _, _, ρ, s, Q, hst, F, .nil, k => wpAny_pure (k s F (Pres.refl _ _ _))
  | n :: ns, _, _, ρ, s, Q, hst, F, .cons h1 h2, k => by
    simp only [List.all_cons, Bool.and_eq_true] at hst
    refine wpAny_bind (wpAny_holding (wpAny_bindName (F.storeV (storable_kind hst.1) h1 fun s' F' hp => ?_)))
    exact storeAll hst.2 F' (hp.rs h2) fun s'' F'' hp' => k s'' F'' (hp.trans hp')

theorem ex_assign_swapped {ts : List Expr} {k : Nat} {tpos pos : Pos} {value : Expr} {names : List Str} {ps : List PV} (h1 : Eval c b d value ρ (.tup ps)) (hlen : names.length = ps.length) (hst : names.reverse.all (fun n => storable b n) = true)
    (hs : ∀ line env, swapsWithSole [.Tuple ts k tpos] value line env = pure false) (hw : ∀ env : Env, env.scope = b.scope → swappedStores [.Tuple ts k tpos] value env = pure (some names)) :
    Exec1 c b d (.Assign [.Tuple ts k tpos] value pos) ρ .next (rsets ρ names.reverse ps.reverse) := .mk fun A env Mo s₀ K M s Q hR F h => by
  refine Assign_Tuple_swapped (names := names) (h1.run A env Mo s₀ K M s _ hR F fun v s' e r => ?_) (hs _ _) (hw _ F.scope)
  obtain ⟨a, vs, rfl, hna, hg, hrs⟩ := r.tup_inv
  have hn : names.length = vs.toArray.size := by simp [hrs.length, hlen]
  rw [hn]
  refine wpAny_unpackItems_tuple hR.handled ⟨_, hg, rfl, 0, rfl⟩ fun h' hx => ?_
  have ex := Ex.but_fresh hx
  refine storeAll hst ((F.ex e).ex ex) (hrs.ex ex).reverse fun s'' F'' hp => h _ _ _ F'' ((Pres.ex (e.trans ex)).trans hp) rfl
end
end Mine
end

section
open PySem PySem.W PyProof.Rows
open PySem.Builtin PySem.Builtin.Str
set_option Elab.async false
set_option maxRecDepth 100000
set_option linter.unusedVariables false
set_option autoImplicit false
namespace Mine

section
variable {c : Cx} {b : Blk} {d : Nat} {ρ : Rho}

theorem sub_rset {x : Str} {v : Bd} (h : ρ.lookup x = none) : Sub ρ (rset ρ x v) := fun y bd e => by
  rw [rset_lookup]
  by_cases q : y = x
  · subst q; rw [h] at e; cases e
  · rw [if_neg q]; exact e
theorem noOwn_rset {x : Str} {p : PV} (h : noOwn ρ = true) : noOwn (rset ρ x (.val p)) = true := by
  unfold noOwn at *
  induction ρ with
  | nil => rfl
  | cons q r ih =>
    obtain ⟨y, w⟩ := q
    simp only [List.all_cons, Bool.and_eq_true] at h
    simp only [rset]
    split
    · simp only [List.all_cons, Bool.and_eq_true]; exact ⟨trivial, h.2⟩
    · simp only [List.all_cons, Bool.and_eq_true]; exact ⟨h.1, ih h.2⟩

end
end Mine
end

section
open PySem PySem.W PyProof.Rows
open PySem.Builtin PySem.Builtin.Str
set_option Elab.async false
set_option maxRecDepth 100000
set_option linter.unusedVariables false
set_option autoImplicit false
namespace Mine

noncomputable def hit (s sub : List Nat) (i : Nat) : Bool := (s.drop i).take sub.length == sub
theorem subAt_hit (s sub : List Nat) (i : Nat) : subAt (txt s) (txt sub) i = hit s sub i := by
  unfold subAt hit
  rw [Bool.eq_iff_iff]
  simp only [beq_iff_eq]
  constructor
  · intro h
    have := congrArg Array.toList h
    simp only [Array.toList_extract, List.extract_eq_take_drop] at this
    simpa [Str.length] using this
  · intro h
    apply Array.ext'
    simp only [Array.toList_extract, List.extract_eq_take_drop]
    simpa [Str.length] using h

noncomputable def occGo (s sub : List Nat) (hi : Nat) : Nat → Nat → Nat → List Nat
  | 0, _, _ => []
  | n + 1, i, free => if free ≤ i ∧ i + sub.length ≤ hi ∧ hit s sub i = true then i :: occGo s sub hi n (i + 1) (i + sub.length) else occGo s sub hi n (i + 1) free

theorem occ_for (s sub : List Nat) (hi limit : Nat) : ∀ (n i : Nat) (st : Array Nat × Nat), st.1.size ≤ limit →
    (forIn (m := Id) (List.range' i n) st (StrLaws.occBody (txt s) (txt sub) hi limit)).run.fst.toList = st.1.toList ++ (occGo s sub hi n i st.2).take (limit - st.1.size)
  | 0, i, st, _ => by
    show st.1.toList = _
    simp [occGo]
  | n + 1, i, st, hs => by
    rw [List.range'_succ, List.forIn_cons]
    have hlen : (txt sub).length = sub.length := rfl
    have hb : StrLaws.occBody (txt s) (txt sub) hi limit i st = if ((st.1.size < limit ∧ st.2 ≤ i) ∧ i + sub.length ≤ hi) ∧ hit s sub i = true then pure (ForInStep.yield (st.1.push i, i + sub.length)) else pure (ForInStep.yield (st.1, st.2)) := by
      unfold StrLaws.occBody; rw [subAt_hit]; rfl
    rw [hb]
    by_cases hc : st.2 ≤ i ∧ i + sub.length ≤ hi ∧ hit s sub i = true
    · rw [occGo, if_pos hc]
      by_cases hl : st.1.size < limit
      · rw [if_pos ⟨⟨⟨hl, hc.1⟩, hc.2.1⟩, hc.2.2⟩]
        refine Eq.trans (occ_for s sub hi limit n (i + 1) (st.1.push i, i + sub.length) (by simp; lia)) ?_
        have e : limit - st.1.size = (limit - (st.1.size + 1)) + 1 := by lia
        simp [e]
      · rw [if_neg (fun h => hl h.1.1.1)]
        refine Eq.trans (occ_for s sub hi limit n (i + 1) (st.1, st.2) hs) ?_
        have e : limit - st.1.size = 0 := by lia
        simp [e]
    · rw [occGo, if_neg hc, if_neg (fun h => hc ⟨h.1.1.2, h.1.2, h.2⟩)]
      exact occ_for s sub hi limit n (i + 1) (st.1, st.2) hs

theorem occ_go (s sub : List Nat) (lo hi limit : Nat) : occurrences (txt s) (txt sub) lo hi limit = (occGo s sub hi (hi + 1 - lo) lo lo).take limit := by
  rw [StrLaws.occ_eq, occ_for s sub hi limit _ lo (#[], lo) (by simp)]
  simp

/- along the text -/
noncomputable def occS (sub : List Nat) : List Nat → Nat → Nat → List Nat
  | [], _, _ => []
  | x :: r, i, 0 => if sub.isPrefixOf (x :: r) then i :: occS sub r (i + 1) (sub.length - 1) else occS sub r (i + 1) 0
  | _ :: r, i, k + 1 => occS sub r (i + 1) k

theorem hit_prefix (s sub : List Nat) (i : Nat) (h : i + sub.length ≤ s.length) : hit s sub i = sub.isPrefixOf (s.drop i) := by
  unfold hit
  rw [Bool.eq_iff_iff, List.isPrefixOf_iff_prefix, beq_iff_eq, List.prefix_iff_eq_take]
  exact eq_comm
theorem isPrefix_len {sub s : List Nat} (h : sub.isPrefixOf s = true) : sub.length ≤ s.length := (List.isPrefixOf_iff_prefix.mp h).length_le

theorem occGo_free (s sub : List Nat) (hi : Nat) : ∀ (n i f g : Nat), f ≤ i → g ≤ i → occGo s sub hi n i f = occGo s sub hi n i g
  | 0, _, _, _, _, _ => rfl
  | n + 1, i, f, g, hf, hg => by
    rw [occGo, occGo]
    by_cases h : i + sub.length ≤ hi ∧ hit s sub i = true
    · rw [if_pos ⟨hf, h⟩, if_pos ⟨hg, h⟩]
    · rw [if_neg (fun q => h q.2), if_neg (fun q => h q.2)]
      exact occGo_free s sub hi n (i + 1) f g (by lia) (by lia)
theorem occGo_S (s sub : List Nat) (h0 : sub ≠ []) : ∀ (r : List Nat) (i k : Nat), s.drop i = r → occGo s sub s.length (r.length + 1) i (i + k) = occS sub r i k
  | [], i, k, hr => by
    have hl : s.length ≤ i := by simpa using hr
    have hp : 0 < sub.length := List.length_pos_iff.mpr h0
    rw [occGo, if_neg (by lia)]
    rfl
  | x :: r, i, 0, hr => by
    have hr' : s.drop (i + 1) = r := by rw [← List.tail_drop, hr]; rfl
    have hlt : s.length = i + (r.length + 1) := by
      have := congrArg List.length hr
      simp at this; lia
    have hp : 0 < sub.length := List.length_pos_iff.mpr h0
    rw [occGo, occS]
    by_cases hq : sub.isPrefixOf (x :: r) = true
    · have hl := isPrefix_len hq
      simp only [List.length_cons] at hl
      have hh : hit s sub i = true := by rw [hit_prefix _ _ _ (by lia), hr]; exact hq
      rw [if_pos ⟨by lia, by lia, hh⟩, if_pos hq]
      have := occGo_S s sub h0 r (i + 1) (sub.length - 1) hr'
      rw [← this]
      congr 2; lia
    · have hh : ¬ (i + 0 ≤ i ∧ i + sub.length ≤ s.length ∧ hit s sub i = true) := fun h => hq (by rw [← hr, ← hit_prefix _ _ _ h.2.1]; exact h.2.2)
      rw [if_neg hh, if_neg hq]
      have := occGo_S s sub h0 r (i + 1) 0 hr'
      rw [← this]
      exact occGo_free _ _ _ _ _ _ _ (by lia) (by lia)
  | x :: r, i, k + 1, hr => by
    have hr' : s.drop (i + 1) = r := by rw [← List.tail_drop, hr]; rfl
    rw [occGo, if_neg (by lia), occS, ← occGo_S s sub h0 r (i + 1) k hr']
    congr 1; lia

theorem occ_S (s sub : List Nat) (h0 : sub ≠ []) (limit : Nat) : occurrences (txt s) (txt sub) 0 s.length limit = (occS sub s 0 0).take limit := by
  rw [occ_go, ← occGo_S s sub h0 s 0 0 rfl]
  rfl
theorem occS_len (sub : List Nat) : ∀ (r : List Nat) (i k : Nat), (occS sub r i k).length ≤ r.length
  | [], _, _ => by simp [occS]
  | x :: r, i, 0 => by
    rw [occS]
    have h1 := occS_len sub r (i + 1) (sub.length - 1)
    have h2 := occS_len sub r (i + 1) 0
    split
    · simp; lia
    · simp; lia
  | x :: r, i, k + 1 => by
    rw [occS]
    have h2 := occS_len sub r (i + 1) k
    simp; lia
theorem occ_all (s sub : List Nat) (h0 : sub ≠ []) : occurrences (txt s) (txt sub) 0 s.length (s.length + 1) = occS sub s 0 0 := by
  rw [occ_S s sub h0, List.take_of_length_le]
  exact Nat.le_succ_of_le (occS_len sub s 0 0)

noncomputable def splitS (sub : List Nat) : List Nat → List Nat → Nat → List (List Nat)
  | [], cur, _ => [cur]
  | x :: r, cur, 0 => if sub.isPrefixOf (x :: r) then cur :: splitS sub r [] (sub.length - 1) else splitS sub r (cur ++ [x]) 0
  | _ :: r, cur, k + 1 => splitS sub r cur k

noncomputable def cuts (s : List Nat) (starts stops : List Nat) : List (List Nat) := (starts.zip stops).map fun p => (s.drop p.1).take (p.2 - p.1)
theorem strSub_txt (s : List Nat) (i j : Nat) : strSub (txt s) i j = txt ((s.drop i).take (j - i)) := by
  unfold strSub
  congr 1
  apply Array.ext'
  simp [List.extract_eq_take_drop]
theorem partsBetween_txt (s : List Nat) (cs : List Nat) (w : Nat) : partsBetween (txt s) cs w = (cuts s (0 :: cs.map (· + w)) (cs ++ [s.length])).map txt := by
  unfold partsBetween cuts
  rw [List.map_map]
  apply List.map_congr_left
  intro p hp
  exact strSub_txt s p.1 p.2

theorem cuts_S (s sub : List Nat) (h0 : sub ≠ []) : ∀ (r : List Nat) (cur : List Nat) (a i k : Nat), s.drop i = r → k ≤ r.length → (k = 0 → s.drop a = cur ++ r ∧ i = a + cur.length) → (0 < k → cur = [] ∧ a = i + k) → a ≤ s.length →
    cuts s (a :: (occS sub r i k).map (· + sub.length)) (occS sub r i k ++ [s.length]) = splitS sub r cur k
  | [], cur, a, i, k, hr, hk, h1, h2, ha => by
    have hk0 : k = 0 := by simpa using hk
    obtain ⟨e, _⟩ := h1 hk0
    have : (s.drop a).take (s.length - a) = cur := by rw [List.append_nil] at e; rw [List.take_of_length_le (by simp), e]
    simp [occS, cuts, splitS, this]
  | x :: r, cur, a, i, 0, hr, hk, h1, h2, ha => by
    obtain ⟨e, hi⟩ := h1 rfl
    have hr' : s.drop (i + 1) = r := by rw [← List.tail_drop, hr]; rfl
    rw [occS, splitS]
    by_cases hq : sub.isPrefixOf (x :: r) = true
    · have hl := isPrefix_len hq
      simp only [List.length_cons] at hl
      have hp : 0 < sub.length := List.length_pos_iff.mpr h0
      have hsl : s.length = i + (r.length + 1) := by
        have := congrArg List.length hr
        simp at this; lia
      rw [if_pos hq, if_pos hq]
      have ih := cuts_S s sub h0 r [] (i + sub.length) (i + 1) (sub.length - 1) hr' (by lia) (fun q => ⟨by
        have : sub.length = 1 := by lia
        rw [this]; simpa using hr', by simp; lia⟩) (fun q => ⟨rfl, by lia⟩) (by lia)
      rw [← ih]
      have hc : (s.drop a).take (i - a) = cur := by rw [e, hi]; simp
      simp [cuts, hc]
    · rw [if_neg hq, if_neg hq]
      exact cuts_S s sub h0 r (cur ++ [x]) a (i + 1) 0 hr' (by lia) (fun _ => ⟨by rw [e]; simp, by simp; lia⟩) (fun q => absurd q (by lia)) ha
  | x :: r, cur, a, i, k + 1, hr, hk, h1, h2, ha => by
    have hr' : s.drop (i + 1) = r := by rw [← List.tail_drop, hr]; rfl
    obtain ⟨e, hi⟩ := h2 (by lia)
    subst e
    rw [occS, splitS]
    simp only [List.length_cons] at hk
    refine cuts_S s sub h0 r [] a (i + 1) k hr' (by lia) (fun q => ?_) (fun q => ⟨rfl, by lia⟩) ha
    subst q
    have : a = i + 1 := by lia
    rw [this]
    exact ⟨by simpa using hr', by simp⟩

theorem split_nohit (sub : List Nat) : ∀ (r cur : List Nat), occS sub r 0 0 = [] → True → splitS sub r cur 0 = [cur ++ r] := by
  have key : ∀ (r cur : List Nat) (i : Nat), occS sub r i 0 = [] → splitS sub r cur 0 = [cur ++ r] := by
    intro r
    induction r with
    | nil => intro cur i _; simp [splitS]
    | cons x r ih =>
      intro cur i h
      rw [occS] at h
      rw [splitS]
      split at h
      · cases h
      · rename_i hq
        rw [if_neg hq, ih (cur ++ [x]) (i + 1) h]
        simp
  exact fun r cur h _ => key r cur 0 h

theorem kind_one {s : List Nat} (h : s.all (· < 256) = true) : PySem.Builtin.Str.strKind (txt s) = 1 := by
  unfold PySem.Builtin.Str.strKind
  rw [if_pos]
  simpa using h
theorem kind_ge (s : Str) : 1 ≤ PySem.Builtin.Str.strKind s := by
  unfold PySem.Builtin.Str.strKind
  split
  · exact Nat.le_refl _
  · split <;> lia
theorem split_S (s sub : List Nat) (h0 : sub ≠ []) (h1 : sub.all (· < 256) = true) : Txt.split (txt s) (txt sub) = (splitS sub s [] 0).map txt := by
  unfold Txt.split
  have hlen : (txt s).length = s.length := rfl
  have hlen2 : (txt sub).length = sub.length := rfl
  have hocc := occ_all s sub h0
  rw [hlen, hlen2, hocc]
  have hcut := cuts_S s sub h0 s [] 0 0 0 rfl (by lia) (fun _ => ⟨rfl, rfl⟩) (fun q => absurd q (by lia)) (by lia)
  by_cases he : occS sub s 0 0 = []
  · have hs := split_nohit sub s [] he trivial
    rw [he, hs]
    simp
  · have hne : (occS sub s 0 0).isEmpty = false := by cases h : occS sub s 0 0 with | nil => exact absurd h he | cons _ _ => rfl
    have hk : ¬ (decide (s.length < sub.length) || decide (PySem.Builtin.Str.strKind (txt s) < PySem.Builtin.Str.strKind (txt sub))) = true := by
      rw [kind_one h1]
      have := kind_ge (txt s)
      simp only [Bool.or_eq_true, decide_eq_true_eq, not_or]
      refine ⟨fun hlt => he ?_, by lia⟩
      have key : ∀ (r : List Nat) (i : Nat), r.length < sub.length → occS sub r i 0 = [] := by
        intro r
        induction r with
        | nil => intro i _; rfl
        | cons x r ih =>
          intro i h
          rw [occS, if_neg (fun q => by have := isPrefix_len q; lia)]
          exact ih (i + 1) (by simp at h; lia)
      exact key s 0 hlt
    rw [if_neg hk, if_neg (by rw [hne]; decide), partsBetween_txt, hcut]

noncomputable def replS (sub by' : List Nat) : List Nat → Nat → List Nat
  | [], _ => []
  | x :: r, 0 => if sub.isPrefixOf (x :: r) then by' ++ replS sub by' r (sub.length - 1) else x :: replS sub by' r 0
  | _ :: r, k + 1 => replS sub by' r k
noncomputable def glueL (g : List Nat) : List (List Nat) → List Nat
  | [] => []
  | [p] => p
  | p :: q :: r => p ++ g ++ glueL g (q :: r)
theorem glueL_cons (g p : List Nat) (r : List (List Nat)) (h : r ≠ []) : glueL g (p :: r) = p ++ g ++ glueL g r := by
  cases r with
  | nil => exact absurd rfl h
  | cons q r => rfl
theorem splitS_ne (sub : List Nat) : ∀ (r cur : List Nat) (k : Nat), splitS sub r cur k ≠ []
  | [], _, _ => by simp [splitS]
  | x :: r, cur, 0 => by
    rw [splitS]
    split
    · simp
    · exact splitS_ne sub r _ 0
  | x :: r, cur, k + 1 => by rw [splitS]; exact splitS_ne sub r _ k
theorem glue_split (sub g : List Nat) : ∀ (r cur : List Nat) (k : Nat), glueL g (splitS sub r cur k) = cur ++ replS sub g r k
  | [], cur, _ => by simp [splitS, glueL, replS]
  | x :: r, cur, 0 => by
    rw [splitS, replS]
    split
    · rw [glueL_cons _ _ _ (splitS_ne sub r _ _), glue_split sub g r [] _]
      simp
    · rw [glue_split sub g r (cur ++ [x]) 0]; simp
  | x :: r, cur, k + 1 => by rw [splitS, replS]; exact glue_split sub g r cur k
theorem glued_fold (g : List Nat) : ∀ (ps : List (List Nat)) (acc : Array Nat), ((ps.map txt).foldl (fun acc p => acc ++ (txt g).cps ++ p.cps) acc).toList = acc.toList ++ (ps.map fun p => g ++ p).flatten
  | [], acc => by simp
  | p :: ps, acc => by
    rw [List.map_cons, List.foldl_cons, glued_fold g ps]
    simp
theorem glueL_flat (g : List Nat) : ∀ (p : List Nat) (ps : List (List Nat)), glueL g (p :: ps) = p ++ (ps.map fun p => g ++ p).flatten
  | p, [] => by simp [glueL]
  | p, q :: r => by rw [glueL, glueL_flat g q r]; simp
theorem glued_L (g : List Nat) (ps : List (List Nat)) (h : ps ≠ []) : glued (txt g) (ps.map txt) = txt (glueL g ps) := by
  cases ps with
  | nil => exact absurd rfl h
  | cons p ps =>
    unfold glued
    congr 1
    apply Array.ext'
    rw [List.map_cons, List.drop_succ_cons, List.drop_zero, List.headD_cons, glued_fold, glueL_flat]
theorem replace_S (s sub g : List Nat) (h0 : sub ≠ []) : Txt.replace (txt s) (txt sub) (txt g) = txt (replS sub g s 0) := by
  unfold Txt.replace
  have hlen : (txt s).length = s.length := rfl
  have hlen2 : (txt sub).length = sub.length := rfl
  have hocc := occ_all s sub h0
  rw [hlen, hlen2, hocc]
  have hp : 0 < sub.length := List.length_pos_iff.mpr h0
  have hcut := cuts_S s sub h0 s [] 0 0 0 rfl (by lia) (fun _ => ⟨rfl, rfl⟩) (fun q => absurd q (by lia)) (by lia)
  have hg := glue_split sub g s [] 0
  by_cases he : occS sub s 0 0 = []
  · have hs := split_nohit sub s [] he trivial
    rw [hs] at hg
    rw [he, if_pos (by simp)]
    simp only [glueL, List.nil_append] at hg
    rw [← hg]
  · have hne : (occS sub s 0 0).isEmpty = false := by cases h : occS sub s 0 0 with | nil => exact absurd h he | cons _ _ => rfl
    have h9 : (sub.length == 0) = false := by simp; lia
    rw [if_neg (by rw [hne, h9]; simp), partsBetween_txt, hcut, glued_L _ _ (splitS_ne _ _ _ _), hg]
    rfl
theorem replS_one (a : Nat) (g : List Nat) : ∀ (s : List Nat), replS [a] g s 0 = s.flatMap fun x => if x = a then g else [x]
  | [] => rfl
  | x :: r => by
    rw [replS, List.flatMap_cons, ← replS_one a g r]
    by_cases h : x = a
    · subst h; simp [List.isPrefixOf]
    · have : ([a] : List Nat).isPrefixOf (x :: r) = false := by simp [List.isPrefixOf]; exact fun q => h q.symm
      rw [this]
      simp [h]

/- the first place at which a text stands -/
noncomputable def findN (s sub : List Nat) (hi : Nat) : Nat → Nat → Option Nat
  | 0, _ => none
  | n + 1, i => if i + sub.length ≤ hi ∧ hit s sub i = true then some i else findN s sub hi n (i + 1)
theorem occGo_head (s sub : List Nat) (hi : Nat) : ∀ (n i f : Nat), f ≤ i → (occGo s sub hi n i f).take 1 = (findN s sub hi n i).toList
  | 0, _, _, _ => rfl
  | n + 1, i, f, hf => by
    rw [occGo, findN]
    by_cases h : i + sub.length ≤ hi ∧ hit s sub i = true
    · rw [if_pos ⟨hf, h⟩, if_pos h]; simp
    · rw [if_neg (fun q => h q.2), if_neg h]
      exact occGo_head s sub hi n (i + 1) f (by lia)
noncomputable def findL (s sub : List Nat) (lo hi : Nat) : Option Nat := findN s sub hi (hi + 1 - lo) lo
theorem find4_L (s sub : List Nat) (lo hi : Nat) (hh : hi ≤ s.length) : find4 (txt s) (txt sub) lo hi = match findL s sub lo hi with | some k => (k : Int) | none => -1 := by
  unfold find4 findL
  have e1 : fromIndex (txt s).length (lo : Int) = lo := by unfold fromIndex; rw [if_neg (by lia)]; lia
  have e2 : min (fromIndex (txt s).length (hi : Int)) (txt s).length = hi := by
    have : fromIndex (txt s).length (hi : Int) = hi := by unfold fromIndex; rw [if_neg (by lia)]; lia
    rw [this]
    show min hi s.length = hi
    lia
  rw [e1, e2, occ_go, occGo_head _ _ _ _ _ _ (Nat.le_refl _)]
  cases findN s sub hi (hi + 1 - lo) lo <;> rfl
theorem contains_L (s sub : List Nat) (h0 : sub ≠ []) : Txt.contains (txt s) (txt sub) = !(occS sub s 0 0).isEmpty := by
  unfold Txt.contains
  rw [show (txt s).length = s.length from rfl, occ_S s sub h0]
  cases occS sub s 0 0 <;> rfl
theorem startswith_L (s sub : List Nat) : Txt.startswith (txt s) (txt sub) = sub.isPrefixOf s := by
  unfold Txt.startswith
  rw [subAt_hit]
  show (decide (0 + sub.length ≤ s.length) && hit s sub 0) = _
  by_cases h : sub.length ≤ s.length
  · rw [hit_prefix _ _ _ (by lia)]
    simp [h]
  · have : sub.isPrefixOf s = false := by
      cases hq : sub.isPrefixOf s with
      | false => rfl
      | true => exact absurd (isPrefix_len hq) h
    rw [this]
    simp; lia
theorem endswith_L (s sub : List Nat) : Txt.endswith (txt s) (txt sub) = (decide (sub.length ≤ s.length) && (s.drop (s.length - sub.length) == sub)) := by
  unfold Txt.endswith
  rw [subAt_hit]
  show (decide (0 + sub.length ≤ s.length) && hit s sub (s.length - sub.length)) = _
  rw [Nat.zero_add]
  by_cases h : sub.length ≤ s.length
  · unfold hit
    rw [List.take_of_length_le (by simp; lia)]
  · simp [h]
end Mine
end

section
open PySem PySem.W PyProof.Rows
open PySem.Builtin PySem.Builtin.Str
set_option Elab.async false
set_option maxRecDepth 100000
set_option linter.unusedVariables false
set_option autoImplicit false
namespace Mine

section
variable {c : Cx} {b : Blk} {d : Nat} {ρ : Rho}

/- the texts of a list -/
noncomputable def strL (ls : List (List Nat)) : List PV := ls.map .str
theorem strPs_txt (ls : List (List Nat)) : strPs (ls.map txt) = strL ls := by
  unfold strPs strL
  rw [List.map_map]
  apply List.map_congr_left
  intro l _
  rfl

theorem join_txt (g : List Nat) (ls : List (List Nat)) : Txt.join (txt g) (ls.map txt) = txt (glueL g ls) := by
  cases ls with
  | nil => rfl
  | cons p r => exact glued_L g (p :: r) (by simp)

theorem op_join (g : List Nat) (ls : List (List Nat)) (hl : (ls.map List.length).sum + ls.length * g.length ≤ 16777216) : Op c d (fun vs => call (.builtin "str.join") vs) [.str g, .list (strL ls)] (.str (glueL g ls)) := .mk fun A M s vs Q hR B hr h => by
  cases hr with | cons h1 h2 => cases h2 with | cons h2 h3 =>
  cases h3; obtain ⟨t1, rfl⟩ := h1.str_inv
  obtain ⟨a, us, n, rfl, _, hg, hs⟩ := h2.list_inv
  rw [← strPs_txt] at hs
  obtain ⟨l, rfl, e⟩ := rs_strValues _ _ hs
  refine wpAny_toks (SC.join (D := a) (l := l) (texts := ls.map txt) ⟨_, hg, rfl, n, rfl⟩ e (joinOk_of ?_) fun t' k => fun hk => ?_)
  · rw [List.map_map, List.length_map]
    exact hl
  · rw [join_txt]
    exact h _ _ (Ex.tok s k hk) (.str _ _)

theorem op_replace_core {A : Around} {M : Mut} {s : Shared} {l y z : List Nat} {t u v : Tok} {Q : Value → Shared → Prop} (hu : u ≠ 0) (hv : v ≠ 0) (huv : u ≠ v) (hyz : y ≠ z) (hy : y ≠ []) (hb : l.length + (l.length + 1) * z.length ≤ 16777216)
    (h : ∀ v s', Ex s s' → R c s'.heap M (.str (replS y z l 0)) v → Q v s') : W c A (call (.builtin "str.replace") [.str (txt l) t, .str (txt y) u, .str (txt z) v]) Q s := by
  refine wpAny_toks (SC.replace hu hv huv ?_ hb fun t' k => fun hk => ?_)
  · refine beq_eq_false_iff_ne.mpr fun q => hyz ?_
    have := congrArg tl q
    exact this
  · rw [replace_S l y z hy]
    exact h _ _ (Ex.tok s k hk) (.str _ _)

theorem ev_replace {o : Expr} {apos pos p1 p2 : Pos} {k1 k2 : Nat} {l : List Nat} {y z : Str} (h0 : Eval c b d o ρ (.str l)) (hyz : tl y ≠ tl z) (hy : tl y ≠ []) (hb : l.length + (l.length + 1) * (tl z).length ≤ 16777216)
    (hbase : ∀ env, attributeBase o "replace" env (eval o env) = eval o env) (hline : (apos.endLine == pos.line) = true) :
    Eval c b d (.Call (.Attribute o "replace" apos) [.Constant (.str y) k1 p1, .Constant (.str z) k2 p2] [] pos) ρ (.str (replS (tl y) (tl z) l 0)) := .mk fun A env Mo s₀ K M s Q hR F h => by
  refine wpAny_Call_method_lateS (hbase env) ?_ hline (h0.run A env Mo s₀ K M s _ hR F fun v s' e hr => ?_)
  · rfl
  · cases hr with
    | str l t =>
      refine ⟨"str", "str.replace", PySem.F.plainAttrs_str, PySem.F.slot_str_replace, PySem.F.type_str_replace, typeIs_str _ _ _, (fun _ e => nomatch e), ?_⟩
      have F' := F.ex e
      refine Calls.callWith_builtin rfl (Calls.evalArgs_plain ?_)
      show W c A (spliced (backTo pos (starEach [.Constant (.str y) k1 p1, .Constant (.str z) k2 p2] env))) _ s'
      refine args_cons (Calls.Constant_str (args_cons (Calls.Constant_str (args_nil ?_)) rfl)) rfl
      have ht := F'.tok
      refine op_replace_core (c := c) (M := M) (l := l) (y := tl y) (z := tl z) (u := s'.toks) (v := s'.toks + 1) (Nat.ne_of_gt ht) (Nat.succ_ne_zero _) (Nat.ne_of_lt (Nat.lt_succ_self _)) hyz hy hb fun v s3 e3 rv => h v s3 ?_ rv
      exact (e.trans (ex2 s')).trans e3

theorem flat_rep {α : Type} (xs : List α) : ∀ (n : Nat) (acc : Array α), (List.foldl (fun x1 x2 => x1 ++ x2) acc (List.replicate n xs.toArray)) = (acc.toList ++ (List.replicate n xs).flatten).toArray
  | 0, acc => by simp
  | n + 1, acc => by
    rw [List.replicate_succ, List.foldl_cons, flat_rep xs n, List.replicate_succ, List.flatten_cons]
    simp

noncomputable def repL {α : Type} (xs : List α) (n : Int) : List α := (List.replicate n.toNat xs).flatten
theorem op_mul_str (l : List Nat) (n : Int) (hlo : -(2 ^ 63) ≤ n) (hhi : n < 2 ^ 63) (hl : l.length * n.toNat ≤ 16777216) : Op2 c (binaryOp .Mult) (.str l) (.int n) (.str (repL l n)) := .mk fun A M s v u Q _ _ h1 h2 h => by
  obtain ⟨t, rfl⟩ := h1.str_inv; obtain ⟨u, rfl⟩ := h2.int_inv

  have hN : ∀ (n : Int), ¬ n < 1 → (n == 1 || (txt l).length == 0) = false → 1 < n ∧ 0 < l.length := fun n h1 h2 => by
    rw [Bool.or_eq_false_iff, beq_eq_false_iff_ne, beq_eq_false_iff_ne] at h2
    have : (txt l).length = l.length := rfl
    lia
  refine P.mul_str (by rw [decide_eq_false (by lia), decide_eq_false (by lia)]; rfl) (fun h1 h2 => ?_) (fun h1 h2 => ?_) ?_
  · obtain ⟨q1, q2⟩ := hN n h1 h2
    have : (txt l).length = l.length := rfl
    rw [this]
    have h3 : (l.length : Int) * (n.toNat : Int) ≤ ((16777216 : Nat) : Int) := by rw [← Int.natCast_mul]; exact Int.ofNat_le.mpr hl
    have h4 : (n.toNat : Int) = n := by lia
    rw [h4] at h3
    have : (l.length : Int) ≤ (2 ^ 63 - 1) / n := by
      rw [Int.le_ediv_iff_mul_le (by lia)]
      lia
    lia
  · unfold tooLong sizeLine
    have : (txt l).length = l.length := rfl
    rw [this]
    exact decide_eq_false (by lia)
  · split
    · rename_i hn
      refine ⟨by decide, ?_⟩
      have e : repL l n = [] := by unfold repL; rw [show n.toNat = 0 by lia]; rfl
      rw [e] at h
      exact h _ _ (ex1 s) (.str [] _)
    · rename_i hn
      split
      · rename_i h1
        have e : repL l n = l := by
          unfold repL
          rw [Bool.or_eq_true, beq_iff_eq, beq_iff_eq] at h1
          rcases h1 with h1 | h1
          · subst h1; exact List.append_nil l
          · have : l = [] := List.length_eq_zero_iff.mp h1
            subst this
            generalize n.toNat = k
            induction k with
            | zero => rfl
            | succ k ih => rw [List.replicate_succ, List.flatten_cons, ih]; rfl
        rw [e] at h
        exact h _ _ (Ex.refl s) (.str l t)
      · have e : (⟨(List.replicate n.toNat (txt l).cps).foldl (· ++ ·) #[]⟩ : Str) = txt (repL l n) := by
          show (⟨(List.replicate n.toNat l.toArray).foldl (fun x1 x2 => x1 ++ x2) #[]⟩ : Str) = _
          rw [flat_rep]; rfl
        rw [e]
        refine ⟨?_, h _ _ (ex1 s) (.str _ _)⟩
        show (repL l n).length ≤ sizeLine
        have : (repL l n).length = n.toNat * l.length := by unfold repL; simp
        rw [this, Nat.mul_comm]
        exact hl

theorem Rs.rep {h : Heap} {M : Mut} {l : List PV} {vs : List Value} (x : Rs c h M l vs) : ∀ (n : Nat), Rs c h M (List.replicate n l).flatten (List.replicate n vs).flatten
  | 0 => .nil
  | n + 1 => by
    rw [List.replicate_succ, List.replicate_succ, List.flatten_cons, List.flatten_cons]
    exact x.append (x.rep n)
theorem op_mul_list (l : List PV) (n : Int) (hlo : -(2 ^ 63) ≤ n) (hhi : n < 2 ^ 63) (hl : l.length * n.toNat ≤ 16777216) : Op2 c (binaryOp .Mult) (.list l) (.int n) (.list (repL l n)) := .mk fun A M s v u Q _ B h1 h2 h => by
  obtain ⟨a, vs, k, rfl, _, hg, hs⟩ := h1.list_inv
  obtain ⟨u, rfl⟩ := h2.int_inv

  have hlen : vs.toArray.size = l.length := by simp [hs.length]
  refine wpAny_binaryOp_repeat_ref (T := "list") (U := "int") (by decide) ⟨_, hg, rfl⟩ (fun s' => typeIs_int s' n u) noFill_list_mul F.fills_int_mul F.slot_int_rmul repeat_list F.slot_int_index.lookup
    (call_meets F.slot_int_rmul (typeIs_int s n u) F.entry_int_rmul (F.args_int_rmul_2 _ _) (int___rmul___int_list n u a vs.toArray k)
      ⟨hg, rfl, ⟨_, hg, rfl⟩, call_meets F.slot_list_mul ⟨_, hg, rfl⟩ F.entry_list_mul (F.args_list_mul_2 _ _)
        (AutoListH.list___mul___list_int_3 a vs.toArray k n u (by simp [Builtin.List.listFitsIndex]; lia) (by rw [hlen]; lia) (by rw [hlen]; simp [Builtin.List.listTooLong, sizeLine]; lia))
        ⟨hg, ?_⟩⟩)
  have e : List.foldl (fun x1 x2 => x1 ++ x2) #[] (List.replicate (if vs.toArray.isEmpty = true then 0 else n.toNat) vs.toArray) = ((List.replicate n.toNat vs).flatten).toArray := by
    rw [flat_rep]
    split
    · rename_i he
      have : vs = [] := by simpa using he
      subst this
      generalize n.toNat = k
      induction k with
      | zero => rfl
      | succ k ih => rw [List.replicate_succ, List.flatten_cons]; simp
    · simp
  rw [e]
  exact h _ _ (Ex.push s _) (R.newList B (hs.rep n.toNat))

theorem op_notin_L (a b : List Nat) (ha : a ≠ []) : Op2 c (compareOp .NotIn) (.str a) (.str b) (.bool (occS a b 0 0).isEmpty) := by
  have := op_notin_str (c := c) a b
  rw [contains_L b a ha, Bool.not_not] at this
  exact this
theorem op_startswith_L (l y : List Nat) : Op c d (fun vs => call (.builtin "str.startswith") vs) [.str l, .str y] (.bool (y.isPrefixOf l)) := by
  rw [← startswith_L]; exact op_startswith l y
theorem op_endswith_L (l y : List Nat) : Op c d (fun vs => call (.builtin "str.endswith") vs) [.str l, .str y] (.bool (decide (y.length ≤ l.length) && (l.drop (l.length - y.length) == y))) := by
  rw [← endswith_L]; exact op_endswith l y
noncomputable def optI : Option Nat → Int
  | some k => (k : Int)
  | none => -1
theorem op_find_L (l y : List Nat) (i j : Nat) (hj : j ≤ l.length) : Op c d (fun vs => call (.builtin "str.find") vs) [.str l, .str y, .int i, .int j] (.int (optI (findL l y i j))) := by
  have e : optI (findL l y i j) = find4 (txt l) (txt y) i j := by rw [find4_L l y i j hj]; cases findL l y i j <;> rfl
  rw [e]; exact op_find4 l y i j
theorem op_split_L (l y : List Nat) (hy : y ≠ []) (hy' : y.all (· < 256) = true) (hl : l.length + 2 ≤ 16777216) : OpNew c d (fun vs => call (.builtin "str.split") vs) [.str l, .str y] (strL (splitS y l [] 0)) := by
  rw [← strPs_txt, ← split_S l y hy hy']
  exact op_split l y (fun q => hy (List.length_eq_zero_iff.mp q)) hl
end
end Mine
end

section
open PySem PySem.W PyProof.Rows
open PySem.Builtin PySem.Builtin.Str
set_option Elab.async false
set_option maxRecDepth 100000
set_option linter.unusedVariables false
set_option autoImplicit false
namespace Mine

section
variable {c : Cx} {b : Blk} {d : Nat} {ρ : Rho}

theorem Op.le {t : List Value → Sem Value} {ps : List PV} {r : PV} {d e : Nat} (h : Op c d t ps r) (hd : d ≤ e) : Op c e t ps r := .mk fun A M s vs Q hR B hr k => h.run A M s vs Q (hR.le hd) B hr k

noncomputable def cut (scope : Scope) (ρ : Rho) : Rho := ρ.filter fun p => scope.names.contains (p.1, .free)
theorem cut_sub (scope : Scope) (ρ : Rho) : Sub (cut scope ρ) ρ := fun x bd h => by
  unfold cut at h
  induction ρ with
  | nil => cases h
  | cons p r ih =>
    obtain ⟨y, w⟩ := p
    rw [List.filter_cons] at h
    rw [List.lookup_cons]
    by_cases q : x = y
    · subst q
      split at h
      · rw [List.lookup_cons] at h; simpa using h
      · rename_i hn
        exfalso
        have key : ∀ (l : Rho), List.lookup x (List.filter (fun p => scope.names.contains (p.1, NameKind.free)) l) = none := by
          intro l
          induction l with
          | nil => rfl
          | cons p l ih2 =>
            obtain ⟨z, u⟩ := p
            rw [List.filter_cons]
            split
            · rename_i hz
              rw [List.lookup_cons]
              by_cases q : x = z
              · subst q; exact absurd hz hn
              · rw [beq_eq_false_iff_ne.mpr q]; exact ih2
            · exact ih2
        rw [key] at h; cases h
    · rw [beq_eq_false_iff_ne.mpr q]
      split at h
      · rw [List.lookup_cons, beq_eq_false_iff_ne.mpr q] at h; exact ih h
      · exact ih h
theorem cut_all (scope : Scope) (ρ : Rho) : (cut scope ρ).all (fun p => scope.names.contains (p.1, .free)) = true := by
  unfold cut
  rw [List.all_eq_true]
  intro p hp
  exact (List.mem_filter.mp hp).2

/- a list comprehension gives a list -/
noncomputable def Comp (c : Cx) (b : Blk) (d : Nat) (e : Expr) (ρ : Rho) (out : List PV) : Prop :=
  ∃ elt target iter ifs rest scope pos v, e = .ListComp elt (⟨target, iter, ifs, 0⟩ :: rest) scope pos ∧ compOk b scope = true ∧ Eval c b d iter ρ v ∧ iterable v ∧ (∀ env x, foldedSetIterable iter env x = pure x) ∧
    noOwn (cut scope ρ) = true ∧ CompLp c (compBlk b scope) d elt (⟨target, iter, ifs, 0⟩ :: rest) scope pos 0 (itemsOf v) (cut scope ρ) out ∧ out.length ≤ 16777216
theorem Comp.ev {e : Expr} {out : List PV} (h : Comp c b d e ρ out) : Eval c b d e ρ (.list out) := by
  obtain ⟨elt, target, iter, ifs, rest, scope, pos, v, rfl, h1, h2, h3, h4, h5, h6, h7⟩ := h
  exact ev_comp h1 h2 h3 h4 (cut_sub _ _) h5 (cut_all _ _) h6 h7
theorem Comp.ex {e : Expr} {out : List PV} {x : Str} {px spos : Pos} (h : Comp c b d e ρ out) (hsw : swaps b x px e = true) : Exec1 c b d (.Assign [.Name x px] e spos) ρ .next (rset ρ x (.val (.list out))) := by
  obtain ⟨elt, target, iter, ifs, rest, scope, pos, v, rfl, h1, h2, h3, h4, h5, h6, h7⟩ := h
  exact ex_assign_comp hsw h1 h2 h3 h4 (cut_sub _ _) h5 (cut_all _ _) h6 h7

/- for each of a list's items, one thing -/
theorem comp_A {α : Type} {elt iter : Expr} {x : Str} {px pos : Pos} {scope : Scope} {v : PV} (xs : List α) (emb h : α → PV) (h1 : Eval c b d iter ρ v) (hit : iterable v) (hxs : itemsOf v = xs.map emb)
    (he : ∀ a ∈ xs, Eval c (compBlk b scope) d elt (rset (cut scope ρ) x (.val (emb a))) (h a)) (hlen : xs.length ≤ 16777216) (hh : compOk b scope = true ∧ noOwn (cut scope ρ) = true ∧ storable (compBlk b scope) x = true ∧ (cut scope ρ).lookup x = none) (hs : ∀ env x, foldedSetIterable iter env x = pure x) : Comp c b d (.ListComp elt [⟨.Name x px, iter, [], 0⟩] scope pos) ρ (xs.map h) := by
  obtain ⟨hok, hno, hk, hx⟩ := hh
  refine ⟨elt, _, iter, [], [], scope, pos, v, rfl, hok, h1, hit, hs, hno, ?_, by simpa using hlen⟩
  rw [hxs]
  clear h1 hxs hlen
  induction xs with
  | nil => exact comp_nil rfl (fun g' e => by cases e)
  | cons a r ih =>
    exact comp_cons (o₁ := [h a]) rfl (fun g' e => by cases e) (bind_name hk) (sub_rset hx) (noOwn_rset hno) (.emit rfl tests_nil (he a List.mem_cons_self)) (ih fun a ha => he a (List.mem_cons_of_mem _ ha))
theorem comp_F {α : Type} {elt iter tst : Expr} {x : Str} {px pos : Pos} {scope : Scope} {v : PV} (xs : List α) (emb h : α → PV) (t : α → Bool) (h1 : Eval c b d iter ρ v) (hit : iterable v) (hxs : itemsOf v = xs.map emb)
    (ht : ∀ a ∈ xs, Test c (compBlk b scope) d tst (rset (cut scope ρ) x (.val (emb a))) (t a)) (he : ∀ a ∈ xs, t a = true → Eval c (compBlk b scope) d elt (rset (cut scope ρ) x (.val (emb a))) (h a)) (hlen : xs.length ≤ 16777216)
    (hh : compOk b scope = true ∧ noOwn (cut scope ρ) = true ∧ storable (compBlk b scope) x = true ∧ (cut scope ρ).lookup x = none) (hs : ∀ env x, foldedSetIterable iter env x = pure x) : Comp c b d (.ListComp elt [⟨.Name x px, iter, [tst], 0⟩] scope pos) ρ ((xs.filter t).map h) := by
  obtain ⟨hok, hno, hk, hx⟩ := hh
  refine ⟨elt, _, iter, [tst], [], scope, pos, v, rfl, hok, h1, hit, hs, hno, ?_, ?_⟩
  · rw [hxs]
    clear h1 hxs hlen
    induction xs with
    | nil => exact comp_nil rfl (fun g' e => by cases e)
    | cons a r ih =>
      have ih' := ih (fun a ha => ht a (List.mem_cons_of_mem _ ha)) fun a ha => he a (List.mem_cons_of_mem _ ha)
      have h0 := ht a List.mem_cons_self
      have h2 := he a List.mem_cons_self
      rw [List.filter_cons]
      cases q : t a with
      | true =>
        rw [q] at h0 h2
        exact comp_cons (o₁ := [h a]) rfl (fun g' e => by cases e) (bind_name hk) (sub_rset hx) (noOwn_rset hno) (.emit rfl (tests_cons h0 tests_nil) (h2 rfl)) ih'
      | false =>
        rw [q] at h0
        exact comp_cons (o₁ := []) rfl (fun g' e => by cases e) (bind_name hk) (sub_rset hx) (noOwn_rset hno) (.skip (tests_cons h0 tests_nil)) ih'
  · rw [List.length_map]
    exact Nat.le_trans (List.length_filter_le _ _) hlen
theorem test_eq {e : Expr} {t t' : Bool} (h : Test c b d e ρ t) (ht : t = t') : Test c b d e ρ t' := ht ▸ h
theorem ev_eq {e : Expr} {p p' : PV} (h : Eval c b d e ρ p) (ht : p = p') : Eval c b d e ρ p' := ht ▸ h
theorem ex_if_t {test : Expr} {body orelse : List Stmt} {pos : Pos} {t : Bool} {f : Fl} {ρ' : Rho} (h1 : Test c b d test ρ t) (ht : t = true) (h2 : Exec c b d body ρ f ρ') : Exec1 c b d (.If test body orelse pos) ρ f ρ' := by
  subst ht; exact ex_if h1 (by exact h2)
theorem ex_if_f {test : Expr} {body orelse : List Stmt} {pos : Pos} {t : Bool} {f : Fl} {ρ' : Rho} (h1 : Test c b d test ρ t) (ht : t = false) (h2 : Exec c b d orelse ρ f ρ') : Exec1 c b d (.If test body orelse pos) ρ f ρ' := by
  subst ht; exact ex_if h1 (by exact h2)
theorem exec_one {st : Stmt} {f : Fl} {ρ' : Rho} (h : Exec1 c b d st ρ f ρ') : Exec c b d [st] ρ f ρ' := by
  by_cases hf : f = .next
  · subst hf; exact exec_cons h exec_nil
  · exact exec_stop h hf
theorem exec_ret {e : Expr} {pos : Pos} {p : PV} {rest : List Stmt} (h1 : Eval c b d e ρ p) : Exec c b d (.Return (some e) pos :: rest) ρ (.ret p) ρ := exec_stop (ex_return h1) (by intro h; cases h)
theorem exec_if_ret {test : Expr} {body orelse rest : List Stmt} {pos : Pos} {t : Bool} {p : PV} {ρ' : Rho} (h1 : Test c b d test ρ t) (h2 : Exec c b d (if t then body else orelse) ρ (.ret p) ρ') : Exec c b d (.If test body orelse pos :: rest) ρ (.ret p) ρ' :=
  exec_stop (ex_if h1 h2) (by intro h; cases h)
theorem op_div_small (a b : Int) (hb : b ≠ 0) (hs : b.natAbs < 1073741824) : Op2 c (binaryOp .FloorDiv) (.int a) (.int b) (.int (a.fdiv b)) := op_div_int a b hb (PyProof.noPylong_small hs)
theorem op_mod_pos (a b : Int) (hb : 0 < b) : Op2 c (binaryOp .Mod) (.int a) (.int b) (.int (a % b)) := by
  rw [← Int.fmod_eq_emod_of_nonneg a (Int.le_of_lt hb)]; exact op_mod_int a b (by lia)
theorem op_div_pos (a b : Int) (hb : 0 < b) (hs : b < 1073741824) : Op2 c (binaryOp .FloorDiv) (.int a) (.int b) (.int (a / b)) := by
  rw [← Int.fdiv_eq_ediv_of_nonneg a (Int.le_of_lt hb)]; exact op_div_small a b (by lia) (by lia)
theorem itemAt_pos {α : Type} {l : List α} {k : Int} {p : α} (h0 : 0 ≤ k) (h : l[k.toNat]? = some p) : itemAt l k = some p := by
  unfold itemAt seqIndex?
  have hl : k.toNat < l.length := by
    have := List.getElem?_eq_some_iff.mp h
    exact this.1
  have h1 : ¬ k < 0 := by lia
  have h2 : (decide (0 ≤ k) && decide (k < (l.length : Int))) = true := by simp; lia
  simp only [h1, if_false, h2, if_true]
  exact h
theorem itemAt_neg {α : Type} {l : List α} {k : Int} {p : α} (h0 : k < 0) (h1 : -(l.length : Int) ≤ k) (h : l[(k + l.length).toNat]? = some p) : itemAt l k = some p := by
  unfold itemAt seqIndex?
  have h2 : (decide (0 ≤ k + (l.length : Int)) && decide (k + (l.length : Int) < (l.length : Int))) = true := by simp; lia
  simp only [h0, if_true, h2]
  exact h
theorem itemAt_last {α : Type} (l : List α) (p : α) : itemAt (l ++ [p]) (-1) = some p := by
  have hl : (l ++ [p]).length = l.length + 1 := by rw [List.length_append]; rfl
  refine itemAt_neg (by decide) (by rw [hl]; lia) ?_
  rw [hl, show (-1 + ((l.length + 1 : Nat) : Int)).toNat = l.length by lia, List.getElem?_append_right (Nat.le_refl _), Nat.sub_self]; rfl
/- a block that gives back -/
noncomputable def Ret (c : Cx) (b : Blk) (d : Nat) (ss : List Stmt) (ρ : Rho) (p : PV) : Prop := ∃ ρ', Exec c b d ss ρ (.ret p) ρ'
theorem ret_cons {st : Stmt} {ss : List Stmt} {ρ₁ : Rho} {p : PV} (h1 : Exec1 c b d st ρ .next ρ₁) (h2 : Ret c b d ss ρ₁ p) : Ret c b d (st :: ss) ρ p := let ⟨ρ', h⟩ := h2; ⟨ρ', exec_cons h1 h⟩
theorem ret_ret {e : Expr} {pos : Pos} {p : PV} {rest : List Stmt} (h1 : Eval c b d e ρ p) : Ret c b d (.Return (some e) pos :: rest) ρ p := ⟨ρ, exec_ret h1⟩
theorem ret_if_t {test : Expr} {body orelse rest : List Stmt} {pos : Pos} {t : Bool} {p : PV} (h1 : Test c b d test ρ t) (ht : t = true) (h2 : Ret c b d body ρ p) : Ret c b d (.If test body orelse pos :: rest) ρ p := by
  subst ht; obtain ⟨ρ', h⟩ := h2; exact ⟨ρ', exec_if_ret h1 (by exact h)⟩
theorem ret_if_f {test : Expr} {body orelse rest : List Stmt} {pos : Pos} {t : Bool} {p : PV} (h1 : Test c b d test ρ t) (ht : t = false) (h2 : Ret c b d orelse ρ p) : Ret c b d (.If test body orelse pos :: rest) ρ p := by
  subst ht; obtain ⟨ρ', h⟩ := h2; exact ⟨ρ', exec_if_ret h1 (by exact h)⟩
theorem ret_skip {test : Expr} {body rest : List Stmt} {pos : Pos} {t : Bool} {p : PV} (h1 : Test c b d test ρ t) (ht : t = false) (h2 : Ret c b d rest ρ p) : Ret c b d (.If test body [] pos :: rest) ρ p := by
  subst ht; exact ret_cons (ex_if (ρ' := ρ) h1 (by exact exec_nil)) h2
theorem ret_stop {st : Stmt} {rest : List Stmt} {p : PV} {ρ' : Rho} (h1 : Exec1 c b d st ρ (.ret p) ρ') : Ret c b d (st :: rest) ρ p := ⟨ρ', exec_stop h1 (by intro h; cases h)⟩
theorem ret_freeze {ss : List Stmt} {x : Str} {l : List PV} {p : PV} (hx : ρ.lookup x = some (.own l)) (h : Ret c b d ss (rset ρ x (.val (.list l))) p) : Ret c b d ss ρ p := let ⟨ρ', h⟩ := h; ⟨ρ', exec_freeze hx h⟩
theorem ret_pre {ss : List Stmt} {ρ₁ : Rho} {p : PV} (hs : Sub ρ₁ ρ) (h : Ret c b d ss ρ₁ p) : Ret c b d ss ρ p := let ⟨ρ', h⟩ := h; ⟨ρ', exec_pre hs h⟩
theorem fn_ret {a : Addr} {names : List Str} {body : List Stmt} {scope : Scope} {ps : List PV} {p : PV} (fn : FnAt c a names body scope) (hok : paramsOk names scope = true) (hlen : ps.length = names.length)
    (hx : Ret c ⟨scope, cellNames scope⟩ d body (names.zip (ps.map .val)) p) : Op c (d + 1) (fun vs => call (.ref a) vs) ps p := let ⟨ρ', h⟩ := hx; fn_call fn hok hlen h
theorem evs_cons' {e : Expr} {es : List Expr} {p : PV} {ps : List PV} (he : isStar e = false) (h1 : Eval c b d e ρ p) (h2 : Evals c b d es ρ ps) : Evals c b d (e :: es) ρ (p :: ps) := evs_cons h1 h2 he
theorem ev_list' {es : List Expr} {pos : Pos} {ps : List PV} (hl : es.length ≤ 16777216) (h1 : Evals c b d es ρ ps) : Eval c b d (.List es pos) ρ (.list ps) := ev_list h1 hl
theorem ev_tup' {es : List Expr} {k : Nat} {pos : Pos} {ps : List PV} (hl : es.length ≤ 16777216) (h1 : Evals c b d es ρ ps) : Eval c b d (.Tuple es k pos) ρ (.tup ps) := ev_tup h1 hl
theorem ev_meth' {id : String} {name : Str} {o : Expr} {apos pos : Pos} {es : List Expr} {l : List Nat} {ps : List PV} {r : PV} (slot : _root_.PySem.Slot "str" name id) (ty : typeOf (.builtin id) = pure (.type "method_descriptor"))
    (hpl : plainArgs es = true) (hfew : es.length < 30) (h0 : Eval c b d o ρ (.str l)) (h1 : Evals c b d es ρ ps) (op : Op c d (fun vs => call (.builtin id) vs) (.str l :: ps) r)
    (hbase : ∀ env, attributeBase o name env (eval o env) = eval o env) (hline : (apos.endLine == pos.line) = true) : Eval c b d (.Call (.Attribute o name apos) es [] pos) ρ r := ev_meth_str slot ty h0 h1 op hbase hline hpl hfew
theorem ev_call' {f : Str} {pf pos : Pos} {es : List Expr} {ps : List PV} {fv : Value} {r : PV} (hpl : plainArgs es = true) (hk : isGlob b f = true) (hg : GlobV c f fv) (hc : Callee c fv) (h1 : Evals c b d es ρ ps)
    (op : Op c d (fun vs => call fv vs) ps r) : Eval c b d (.Call (.Name f pf) es [] pos) ρ r := ev_call hk hg hc h1 op hpl
theorem test_attr' {x : Expr} {p : PV} {t : Bool} (he : ∀ env whole, isTrue x env whole = (do let v ← whole; standAt x.pos; holding [v] (truthy v))) (h1 : Eval c b d x ρ p) (h2 : Tr c p t) : Test c b d x ρ t := test_plain h1 h2 he
theorem callee_builtin (id : String) : Callee c (.builtin id) := .inl ⟨id, rfl⟩
theorem callee_type (T : String) : Callee c (.type T) := .inr (.inl ⟨T, rfl⟩)
theorem callee_fn {a : Addr} {names : List Str} {body : List Stmt} {scope : Scope} (h : FnAt c a names body scope) : Callee c (.ref a) := by
  obtain ⟨o, fd, h1, h2, _⟩ := h.fd
  exact .inr (.inr ⟨a, o, fd, rfl, h1, h2⟩)
end
end Mine
end

section
open PySem PySem.W PyProof.Rows
open PySem.Builtin PySem.Builtin.Str
set_option Elab.async false
set_option maxRecDepth 100000
set_option linter.unusedVariables false
set_option autoImplicit false
namespace Mine

theorem pick_range' {α : Type} (l : List α) : ∀ (n a : Nat), pick l (List.range' a n) = (l.drop a).take n
  | 0, a => by simp [pick]
  | n + 1, a => by
    unfold pick
    rw [List.range'_succ, List.filterMap_cons]
    have ih := pick_range' l n (a + 1)
    unfold pick at ih
    by_cases h : a < l.length
    · rw [List.getElem?_eq_getElem h, List.drop_eq_getElem_cons h, List.take_succ_cons]
      simp only [ih]
    · rw [List.getElem?_eq_none (by lia)]
      simp only [ih]
      rw [List.drop_eq_nil_of_le (by lia), List.drop_eq_nil_of_le (by lia)]
      simp
theorem range_map (a : Nat) (m : Int) : ((List.range m.toNat).map fun (k : Nat) => ((a : Int) + (k : Int)).toNat) = List.range' a m.toNat := by
  rw [List.map_congr_left (g := fun k => a + k) (by intro k _; lia), ← List.range'_eq_map_range]
theorem clampN (a n : Nat) : max 0 (min (a : Int) (n : Int)) = ((min a n : Nat) : Int) := by lia
theorem slice_nn {α : Type} (l : List α) (a b : Nat) : pick l (sliceIx (some (a : Int)) (some (b : Int)) none l.length) = (l.take b).drop a := by
  unfold sliceIx sliceBounds
  simp only [Option.getD_none, show (1 : Int) > 0 by decide, if_true]
  have e1 : ∀ a : Nat, ¬ ((a : Int) < 0) := fun a => Int.not_lt.mpr (Int.natCast_nonneg a)
  simp only [e1, if_false]
  rw [clampN, clampN, sliceRange_one, range_map, pick_range', List.drop_take, Int.toNat_sub]
  by_cases h : a ≤ l.length
  · rw [Nat.min_eq_left h]
    by_cases h2 : b ≤ l.length
    · rw [Nat.min_eq_left h2]
    · have h2 := Nat.le_of_lt (Nat.lt_of_not_le h2)
      rw [Nat.min_eq_right h2, List.take_of_length_le (by rw [List.length_drop]; exact Nat.le_refl _), List.take_of_length_le (by rw [List.length_drop]; exact Nat.sub_le_sub_right h2 _)]
  · have h := Nat.le_of_lt (Nat.lt_of_not_le h)
    rw [List.drop_eq_nil_of_le h, List.drop_eq_nil_of_le (by rw [Nat.min_eq_right h]; exact Nat.le_refl _), List.take_nil, List.take_nil]
theorem slice_n_ {α : Type} (l : List α) (a : Nat) : pick l (sliceIx (some (a : Int)) none none l.length) = l.drop a := by
  have e : sliceIx (some (a : Int)) none none l.length = sliceIx (some (a : Int)) (some (l.length : Int)) none l.length := by
    unfold sliceIx sliceBounds
    simp only [Option.getD_none, show (1 : Int) > 0 by decide, if_true]
    have e2 : ¬ ((l.length : Int) < 0) := Int.not_lt.mpr (Int.natCast_nonneg _)
    simp only [e2, if_false]
    congr 1; lia
  rw [e, slice_nn, List.take_of_length_le (Nat.le_refl _)]
section
variable {c : Cx} {b : Blk} {d : Nat} {ρ : Rho}
theorem cut_str_nn {l : List Nat} {i j : Nat} (hl : l.length ≤ 16777216) : Cut c (some (i : Int)) (some (j : Int)) none (.str l) (.str ((l.take j).drop i)) := by
  rw [← slice_nn]; exact cut_str (by decide) hl
theorem cut_str_n_ {l : List Nat} {i : Nat} (hl : l.length ≤ 16777216) : Cut c (some (i : Int)) none none (.str l) (.str (l.drop i)) := by
  rw [← slice_n_]; exact cut_str (by decide) hl
/- a part of a cut -/
structure EP (c : Cx) (b : Blk) (d : Nat) (e : Option Expr) (ρ : Rho) (k : Option Int) : Prop where
  h : EvalPart c b d e ρ k
theorem part_none : EP c b d none ρ none := ⟨trivial⟩
theorem part_some {e : Expr} {i : Int} (h : Eval c b d e ρ (.int i)) : EP c b d (some e) ρ (some i) := ⟨h⟩
theorem ev_cut' {value : Expr} {lo hi st : Option Expr} {ps pos : Pos} {l h s : Option Int} {p r : PV} (h0 : Eval c b d value ρ p) (h1 : EP c b d lo ρ l) (h2 : EP c b d hi ρ h) (h3 : EP c b d st ρ s) (h4 : Cut c l h s p r) :
    Eval c b d (.Subscript value (.Slice lo hi st ps) pos) ρ r := ev_cut h0 h1.h h2.h h3.h h4
end
end Mine
end

section
open PySem PySem.W PyProof.Rows
open PySem.Builtin PySem.Builtin.Str
set_option Elab.async false
set_option maxRecDepth 100000
set_option linter.unusedVariables false
set_option autoImplicit false
namespace Mine
section
variable {c : Cx} {b : Blk} {d : Nat} {ρ : Rho}

theorem Rs.flat {h : Heap} {M M' : Mut} {l : List PV} {vs : List Value} (hl : l.all Mine.flat = true) (x : Rs c h M l vs) : Rs c h M' l vs :=
  x.ind (P := fun l vs => l.all Mine.flat = true → Rs c h M' l vs) (fun _ => .nil) (fun h1 _ ih hl => by
    rw [List.all_cons, Bool.and_eq_true] at hl
    exact .cons (h1.flat hl.1) (ih hl.2)) hl

theorem new_add_own {x : Str} {px pos : Pos} {r : Expr} {p q : List PV} (hx : ρ.lookup x = some (.own p)) (hd : (x == ("__debug__" : Str)) = false) (h2 : Eval c b d r (rset ρ x (.val (.list p))) (.list q)) (hq : q.all flat = true)
    (hl : p.length + q.length ≤ 16777216) : EvalNew c b d (.BinOp (.Name x px) .Add r pos) ρ (p ++ q) := .mk fun A env Mo s₀ K M s Q hR F h => wpAny_BinOp (by
  obtain ⟨m, a, us, n, hns, hm, hM, hMo, hg, hr⟩ := F.ownAt hx
  refine wpAny_Name (F.loadO hx hns hm ?_) hd
  obtain ⟨M', F', hp, hsub⟩ := F.freeze hx
  refine h2.run A env Mo s₀ K M' s _ hR F' fun u s' e ru => ?_
  obtain ⟨a', vs', n', rfl, _, hg', hr'⟩ := ru.list_inv
  refine P.add_list (e.keep _ _ hg) hg' ?_ (by show us.length + vs'.length ≤ 16777216; rw [hr.length, hr'.length]; exact hl)
  have e' : us.toArray ++ vs'.toArray = (us ++ vs').toArray := by simp
  rw [e']
  exact h _ (us ++ vs') 0 s' _ e (Ex.push s' _) (fresh_none s') (Heap.get?_push_size _ rfl) ((hr.ex e).append (hr'.flat hq)))

variable {x : Addr} {ox : Obj} {dx : Addr}
theorem execI_freeze {ss : List Stmt} {y : Str} {l : List PV} {I I' : List (Str × PV)} {f : Fl} {ρ' : Rho} (hx : ρ.lookup y = some (.own l)) (h : ExecI c b d x ox dx ss (rset ρ y (.val (.list l))) I f ρ' I') : ExecI c b d x ox dx ss ρ I f ρ' I' :=
  .mk fun A env Mo s₀ K M s Q hR F hi hK k => by
    obtain ⟨od, hg, hh, back⟩ := hi.held
    obtain ⟨M', F', hp, _⟩ := (F.toprot (p := (dx, od)) ⟨hg, hi.m, hh⟩).freeze hx
    have pr := F'.prot _ List.mem_cons_self
    exact h.run A env Mo s₀ K M' s Q hR F'.unprot (back hp pr.1 pr.2.1) hK fun fl s' M'' F'' hi'' hp' hf => k fl s' M'' F'' hi'' (hp.trans hp') hf
theorem execI_pre {ss : List Stmt} {I I' : List (Str × PV)} {f : Fl} {ρ₁ ρ' : Rho} (hs : Sub ρ₁ ρ) (h : ExecI c b d x ox dx ss ρ₁ I f ρ' I') : ExecI c b d x ox dx ss ρ I f ρ' I' :=
  .mk fun A env Mo s₀ K M s Q hR F hi hK k => h.run A env Mo s₀ K M s Q hR (F.forget hs) hi hK k
theorem execI_lift {st : Stmt} {ss : List Stmt} {ρ₁ ρ' : Rho} {I I' : List (Str × PV)} {f : Fl} (h1 : Exec1 c b d st ρ .next ρ₁) (h2 : ExecI c b d x ox dx ss ρ₁ I f ρ' I') : ExecI c b d x ox dx (st :: ss) ρ I f ρ' I' := execI_cons (exI_lift h1) h2

/- up to the end -/
noncomputable def RetI (c : Cx) (b : Blk) (d : Nat) (x : Addr) (ox : Obj) (dx : Addr) (ss : List Stmt) (ρ : Rho) (I I' : List (Str × PV)) : Prop := ∃ ρ', ExecI c b d x ox dx ss ρ I .next ρ' I'
theorem reti_nil {I : List (Str × PV)} : RetI c b d x ox dx [] ρ I I := ⟨_, execI_nil⟩
theorem reti_cons {st : Stmt} {ss : List Stmt} {ρ₁ : Rho} {I I₁ I' : List (Str × PV)} (h1 : ExecI1 c b d x ox dx st ρ I .next ρ₁ I₁) (h2 : RetI c b d x ox dx ss ρ₁ I₁ I') : RetI c b d x ox dx (st :: ss) ρ I I' := let ⟨_, h⟩ := h2; ⟨_, execI_cons h1 h⟩
theorem reti_lift {st : Stmt} {ss : List Stmt} {ρ₁ : Rho} {I I' : List (Str × PV)} (h1 : Exec1 c b d st ρ .next ρ₁) (h2 : RetI c b d x ox dx ss ρ₁ I I') : RetI c b d x ox dx (st :: ss) ρ I I' := let ⟨_, h⟩ := h2; ⟨_, execI_lift h1 h⟩
theorem reti_pre {ss : List Stmt} {ρ₁ : Rho} {I I' : List (Str × PV)} (hs : Sub ρ₁ ρ) (h : RetI c b d x ox dx ss ρ₁ I I') : RetI c b d x ox dx ss ρ I I' := let ⟨_, h⟩ := h; ⟨_, execI_pre hs h⟩
theorem reti_freeze {ss : List Stmt} {y : Str} {l : List PV} {I I' : List (Str × PV)} (hx : ρ.lookup y = some (.own l)) (h : RetI c b d x ox dx ss (rset ρ y (.val (.list l))) I I') : RetI c b d x ox dx ss ρ I I' := let ⟨_, h⟩ := h; ⟨_, execI_freeze hx h⟩

end
end Mine
end

section
open PySem PySem.W PyProof.Rows
open PySem.Builtin PySem.Builtin.Str
set_option Elab.async false
set_option maxRecDepth 100000
set_option linter.unusedVariables false
set_option autoImplicit false
namespace Mine
section
variable {c : Cx} {b : Blk} {d : Nat} {ρ : Rho} {x : Addr} {ox : Obj} {dx : Addr}

theorem op_len_tup (l : List PV) (hl : (l.length : Int) < 2 ^ 63) : Op c d (fun vs => call (.builtin "len") vs) [.tup l] (.int l.length) := .mk fun A M s vs Q hR B hr h => by
  cases hr with
  | cons h1 h2 =>
    cases h2
    obtain ⟨a, vs, rfl, h1, h2, h3⟩ := h1.tup_inv
    have e := h3.length
    refine wpAny_toks (PyProof.Rows.len_tuple (items := vs.toArray) ⟨_, h2, rfl, 0, rfl⟩ (by simpa [e] using hl) ?_)
    have e2 : ((vs.toArray.size : Nat) : Int) = (l.length : Int) := by simp [e]
    rw [e2]
    exact fun hk => h _ _ (ex2 s) (.int _ _)

theorem RetI.toNil {ss : List Stmt} {I I' : List (Str × PV)} (h : RetI c b d x ox dx ss ρ I I') : ExecI c b d x ox dx ss ρ I .next [] I' := by
  obtain ⟨ρ', h⟩ := h
  exact .mk fun A env Mo s₀ K M s Q hR F hi hK k => h.run A env Mo s₀ K M s Q hR F hi hK fun fl s' M' F' hi' hp hf => k fl s' M' (F'.forget (Sub.nil _)) hi' hp hf

theorem op_mul_r (a b : Int) (h1 : -(2 ^ 64) < b) (h2 : b < 2 ^ 64) : Op2 c (binaryOp .Mult) (.int a) (.int b) (.int (a * b)) := op_mul_int a b (IntMulOk.of_right (intBits_le_64 h1 h2))
theorem op_mul_l (a b : Int) (h1 : -(2 ^ 64) < a) (h2 : a < 2 ^ 64) : Op2 c (binaryOp .Mult) (.int a) (.int b) (.int (a * b)) := op_mul_int a b (IntMulOk.of_left (intBits_le_64 h1 h2))

theorem ex_assign_s {x : Str} {px pos : Pos} {value : Expr} {p : PV} (h1 : Eval c b d value ρ p) (hk : storable b x = true)
    (hs : ∀ line (env : Env), env.scope = b.scope → swapsWith value (some (.Name x px)) line env = pure false) : Exec1 c b d (.Assign [.Name x px] value pos) ρ .next (rset ρ x (.val p)) :=
  .mk fun A env Mo s₀ K M s Q hR F h => wpAny_Assign_Name (h1.run A env Mo s₀ K M s _ hR F fun v s' e r => (F.ex e).storeV (storable_kind hk) r fun s'' F' hp => h _ _ _ F' ((Pres.ex e).trans hp) rfl) (hs _ _ F.scope)
/- a method of an instance -/
structure MethAt (c : Cx) (mN : Str → Option Value) (name : Str) (f : Addr) : Prop where
  at' : mN name = some (.ref f)
  ob : ∃ of fd, c.h1.get? f = some of ∧ of.cls = .type "function" ∧ of.data = .func fd
  ty : ∃ y, typeLookup (.type "object") name = pure y
theorem ev_methO' {N : Addr} {mN : Str → Option Value} {name : Str} {f : Addr} {o : Expr} {apos pos : Pos} {es : List Expr} {ns : List Str} {l ps : List PV} {r : PV} (hC : Cls c N mN) (hm : MethAt c mN name f) (hsh : ns.contains name = false) (hpl : plainArgs es = true) (hfew : es.length < 30)
    (h0 : Eval c b d o ρ (.obj ns l)) (h1 : Evals c b d es ρ ps) (op : Op c d (fun vs => call (.ref f) vs) (.obj ns l :: ps) r)
    (hbase : ∀ env, attributeBase o name env (eval o env) = eval o env) (hline : (apos.endLine == pos.line) = true) : Eval c b d (.Call (.Attribute o name apos) es [] pos) ρ r := by
  obtain ⟨of, fd, h2, h3, h4⟩ := hm.ob
  obtain ⟨y, hy⟩ := hm.ty
  exact ev_methO hC hm.at' h2 h3 h4 hy hsh h0 h1 op hbase hline hpl hfew
end
end Mine
end

section
open PySem PySem.W PyProof.Rows
open PySem.Builtin PySem.Builtin.Str
set_option Elab.async false
set_option maxRecDepth 100000
set_option linter.unusedVariables false
set_option autoImplicit false
namespace Mine

/- numbers and bools within lists within one another -/
noncomputable def numD : Nat → PV → Bool
  | _, .none => true
  | _, .bool _ => true
  | _, .int _ => true
  | k + 1, .list l => l.all (numD k)
  | k + 1, .tup l => l.all (numD k)
  | _, _ => false
theorem numD_ok : ∀ (k : Nat) (p : PV), numD k p = true → PyData.canLay0 (pd p) = true ∧ PyData.depth (pd p) ≤ k := by
  have key : ∀ (k : Nat), (∀ (p : PV), numD k p = true → PyData.canLay0 (pd p) = true ∧ PyData.depth (pd p) ≤ k) → ∀ (l : List PV), l.all (numD k) = true → PyData.canLayAll0 (pds l) = true ∧ PyData.depthAll (pds l) ≤ k := by
    intro k ih l
    induction l with
    | nil => intro _; simp [pds, PyData.canLayAll0, PyData.depthAll]
    | cons p l ihl =>
      intro h
      simp only [List.all_cons, Bool.and_eq_true] at h
      obtain ⟨h1, h2⟩ := ih p h.1
      obtain ⟨h3, h4⟩ := ihl h.2
      simp only [pds, PyData.canLayAll0, PyData.depthAll, h1, h3, Bool.and_self, true_and]
      lia
  intro k
  induction k with
  | zero =>
    intro p h
    cases p <;> first | exact absurd h Bool.false_ne_true | exact ⟨rfl, Nat.le_refl 0⟩
  | succ k ih =>
    intro p h
    cases p with
    | none => exact ⟨rfl, Nat.zero_le _⟩
    | bool b => exact ⟨rfl, Nat.zero_le _⟩
    | int i => exact ⟨rfl, Nat.zero_le _⟩
    | list l =>
      obtain ⟨h1, h2⟩ := key k ih l h
      exact ⟨h1, Nat.add_le_add_right h2 1⟩
    | tup l =>
      obtain ⟨h1, h2⟩ := key k ih l h
      exact ⟨h1, Nat.add_le_add_right h2 1⟩
    | str _ => exact absurd h Bool.false_ne_true
    | obj _ _ => exact absurd h Bool.false_ne_true
    | rng _ _ => exact absurd h Bool.false_ne_true
    | raw _ _ => exact absurd h Bool.false_ne_true
theorem dataOk_num {p : PV} (h : numD 8 p = true) : dataOk p = true := by
  obtain ⟨h1, h2⟩ := numD_ok 8 p h
  unfold dataOk SeqAt.shaped
  rw [h1]
  simp; lia

theorem peq_cons_list (p q : PV) (l m : List PV) : peq (.list (p :: l)) (.list (q :: m)) = (peq p q && peq (.list l) (.list m)) := by
  simp [peq, pd, pds, PyData.eqv, PyData.eqvAll]
noncomputable def intL (l : List Nat) : List PV := l.map fun (k : Nat) => .int (k : Int)
theorem numD_intL (k : Nat) (l : List Nat) : (intL l).all (numD k) = true := by
  rw [List.all_eq_true]; intro p hp
  obtain ⟨b, _, rfl⟩ := List.mem_map.mp hp
  cases k <;> rfl
theorem peq_intL : ∀ (a b : List Nat), peq (.list (intL a)) (.list (intL b)) = (a == b)
  | [], [] => by simp [intL, peq, pd, pds, PyData.eqv, PyData.eqvAll]
  | [], _ :: _ => by simp [intL, peq, pd, pds, PyData.eqv, PyData.eqvAll]
  | _ :: _, [] => by simp [intL, peq, pd, pds, PyData.eqv, PyData.eqvAll]
  | x :: a, y :: b => by
    show peq (.list (.int x :: intL a)) (.list (.int y :: intL b)) = _
    rw [peq_cons_list, peq_intL a b]
    have : peq (.int (x : Int)) (.int (y : Int)) = (x == y) := by
      simp only [peq, pd, PyData.eqv]
      rw [Bool.eq_iff_iff, beq_iff_eq, beq_iff_eq]; lia
    rw [this]; simp
section
variable {c : Cx}
theorem op_eq_num (p q : PV) (hp : numD 8 p = true) (hq : numD 8 q = true) : Op2 c (compareOp .Eq) p q (.bool (peq p q)) := op_eq p q (dataOk_num hp) (dataOk_num hq)
theorem op_ne_num (p q : PV) (hp : numD 8 p = true) (hq : numD 8 q = true) : Op2 c (compareOp .NotEq) p q (.bool (!peq p q)) := op_ne p q (dataOk_num hp) (dataOk_num hq)
end
end Mine
end

section
open PySem PySem.W PyProof.Rows
open PySem.Builtin PySem.Builtin.Str
set_option Elab.async false
set_option maxRecDepth 100000
set_option linter.unusedVariables false
set_option autoImplicit false
namespace Mine
section
variable {c : Cx} {b : Blk} {d : Nat} {ρ : Rho}

theorem ex_assign_all' {ts : List Expr} {value : Expr} {pos : Pos} {p : PV} {ρ' : Rho} (h1 : Eval c b d value ρ p) (h2 : BindAll c b d p ts ρ ρ') (hst : ts.all (fun t => !isStar t) = true) (hs : ∀ line (env : Env), env.scope = b.scope → swapsWithSole ts value line env = pure false)
    (hw : ∀ env : Env, env.scope = b.scope → swappedStores ts value env = pure none) : Exec1 c b d (.Assign ts value pos) ρ .next ρ' := .mk fun A env Mo s₀ K M s Q hR F h => by
  refine wpAny_Assign_stores (h1.run A env Mo s₀ K M s _ hR F fun v s' e r => ?_) (hs _ _ F.scope) (hw _ F.scope)
  rw [assignEach_map hst, List.map_map]
  exact bindAll_ok h2 hR (F.ex e) r fun s'' F'' hp => h _ _ _ F'' ((Pres.ex e).trans hp) rfl
theorem rngPs_map : ∀ (n : Nat) (a : Int), rngPs a n = (List.range n).map fun (i : Nat) => PV.int (a + i)
  | 0, _ => rfl
  | n + 1, a => by
    rw [rngPs, rngPs_map n (a + 1), List.range_succ_eq_map, List.map_cons, List.map_map]
    congr 1
    · simp
    · apply List.map_congr_left; intro i _
      show PV.int (a + 1 + i) = PV.int (a + ((i + 1 : Nat) : Int))
      congr 1; lia
theorem len63 {n : Nat} (h : n ≤ 1000) : (n : Int) < 2 ^ 63 := by lia
theorem nlo (j : Nat) : -(2 ^ 63) ≤ (j : Int) := by lia
theorem items0 (n : Nat) : itemsOf (.rng 0 n) = rngPs 0 n := by
  show rngPs 0 ((n : Int) - 0).toNat = _
  rw [Int.sub_zero, Int.toNat_natCast]
theorem iter0 {n : Nat} (h : n ≤ 1000) : iterable (.rng 0 n) := by
  show _ ∧ _; lia
theorem ex_rng0 {target iter : Expr} {body orelse : List Stmt} {pos : Pos} {n : Nat} {f : Fl} {ρ' : Rho} (h1 : Eval c b d iter ρ (.rng 0 (n : Nat))) (hn : n ≤ 1000) (h2 : ForEx c b d target body orelse (rngPs 0 n) ρ f ρ')
    (hs : ∀ env x, foldedSetIterable iter env x = pure x) : Exec1 c b d (.For target iter body orelse pos) ρ f ρ' := ex_for h1 (iter0 hn) (by rw [items0]; exact h2) hs
theorem repL_one (a : Nat) (n : Int) : repL [a] n = List.replicate n.toNat a := by unfold repL; simp
end
end Mine
end

section
open PySem PySem.W PyProof.Rows
set_option Elab.async false
set_option maxRecDepth 100000
set_option linter.unusedVariables false
set_option autoImplicit false
namespace Mine
section
variable {c : Cx} {K : Frag}
theorem ns_some_of {h : Heap} {N : Addr} {m : Str → Option Value} {n : Str} {v : Value} (X : K.In h) (G : h.Ns N m) (e : nsIn K N n = some (some v)) : m n = some v := by
  obtain ⟨o, es, ep, ho, hd, _, hf⟩ := G
  unfold nsIn at e
  split at e
  · rename_i c d es' n' sl q
    have := X _ _ q
    rw [ho] at this
    cases this
    cases hd
    split at e
    · rename_i en he
      cases e
      rw [← hf]
      unfold nsFind findBy
      rw [← Array.find?_toList, he]
      rfl
    · split at e <;> cases e
  · cases e
theorem fnAt_of (KX : K.In c.h1) (lim : c.h1.NoLimit) {a : Addr} {o : Obj} {fd : FuncData} {names : List Str} {body : List Stmt} {scope : Scope} (ho : K.lookup a = some o) (hd : o.data = .func fd) (h1 : fd.body = .stmts body) (h2 : fd.scope = scope) (h3 : fd.globals = mainGlobals)
    (h4 : fd.builtins = builtinsNs) (h5 : fd.closure = []) (h6 : codeIn K fd.code fd.qualname = true) (h7 : ∀ vs : List Value, vs.length = names.length → bindArgs fd ⟨vs, []⟩ = pure (names.zip vs)) : FnAt c a names body scope :=
  ⟨⟨o, fd, KX _ _ ho, hd, h1, h2, h3, h4, h5, codeRec_of KX h6, h7⟩, lim⟩
theorem glob_of (KX : K.In c.h1) {mg : Str → Option Value} (hg : c.h1.Ns mainGlobals mg) {x : Str} {v : Value} (e : nsIn K mainGlobals x = some (some v)) : GlobV c x v := .inl ⟨mg, hg, mg_of KX hg e⟩
theorem blt_of (KX : K.In c.h1) {mg mb : Str → Option Value} (hg : c.h1.Ns mainGlobals mg) (hb : c.h1.Ns builtinsNs mb) {x : Str} {v : Value} (e : nsIn K mainGlobals x = some none) (e2 : nsIn K builtinsNs x = some (some v)) : GlobV c x v :=
  .inr ⟨mg, mb, hg, mg_none_of KX hg e, hb, ns_some_of KX hb e2⟩
theorem bind1 {fd : FuncData} {x : Str} (h : ∀ a, bindArgs fd ⟨[a], []⟩ = pure [(x, a)]) : ∀ vs : List Value, vs.length = [x].length → bindArgs fd ⟨vs, []⟩ = pure ([x].zip vs)
  | [a], _ => h a
  | [], e => by cases e
  | _ :: _ :: _, e => by simp at e
theorem bind2 {fd : FuncData} {x y : Str} (h : ∀ a b, bindArgs fd ⟨[a, b], []⟩ = pure [(x, a), (y, b)]) : ∀ vs : List Value, vs.length = [x, y].length → bindArgs fd ⟨vs, []⟩ = pure ([x, y].zip vs)
  | [a, b], _ => h a b
  | [], e => by cases e
  | [_], e => by simp at e
  | _ :: _ :: _ :: _, e => by simp at e
theorem meth_of (KX : K.In c.h1) {N f : Addr} {mN : Str → Option Value} {name : Str} {of : Obj} {fd : FuncData} {y : Option Value} (hN : c.h1.Ns N mN) (e : nsIn K N name = some (some (.ref f))) (ho : K.lookup f = some of) (hc : of.cls = .type "function") (hd : of.data = .func fd)
    (hy : typeLookup (.type "object") name = pure y) : MethAt c mN name f := ⟨ns_some_of KX hN e, ⟨of, fd, KX _ _ ho, hc, hd⟩, ⟨y, hy⟩⟩
end
end Mine
end

section
open PySem PySem.W PyProof.Rows
open PySem.Builtin PySem.Builtin.Str
open Mine
set_option Elab.async false
set_option maxRecDepth 100000

open PySem PySem.W PyProof.Rows
open PySem.Builtin PySem.Builtin.Str
set_option Elab.async false
set_option maxRecDepth 100000
set_option linter.unusedVariables false
set_option autoImplicit false
namespace Mine
noncomputable def P : Program := PySem.Challenge.pw_rl0098_01
noncomputable def noStm : Stmt := .Break ⟨0, 0, 0, 0⟩
noncomputable def stm (i : Nat) : Stmt := (P.main.body[i]?).getD noStm
noncomputable def fBody : Stmt → List Stmt
  | .FunctionDef _ _ b _ _ _ _ _ _ _ => b
  | _ => []
noncomputable def fScope : Stmt → Scope
  | .FunctionDef _ _ _ _ _ _ s _ _ _ => s
  | _ => { kind := .function, names := [], isGenerator := false, isCoroutine := false, more := [] }
noncomputable def fBlk (s : Stmt) : Blk := ⟨fScope s, cellNames (fScope s)⟩
noncomputable def cStm : Stmt → Nat → Stmt
  | .ClassDef _ _ _ body _ _ _ _ _ _ _, i => (body[i]?).getD noStm
  | _, _ => noStm
noncomputable def sEll : Stmt := stm 7
noncomputable def sEsc : Stmt := stm 2
noncomputable def sStrip : Stmt := stm 3
noncomputable def sCheck : Stmt := stm 4
noncomputable def sCls : Stmt := stm 9
noncomputable def nth (ss : List Stmt) (i : Nat) : Stmt := (ss[i]?).getD noStm
noncomputable def noExp : Expr := .Constant .none 0 ⟨0, 0, 0, 0⟩
noncomputable def wTest : Stmt → Expr
  | .While t _ _ _ => t
  | .If t _ _ _ => t
  | _ => noExp
noncomputable def wBody : Stmt → List Stmt
  | .While _ b _ _ => b
  | .If _ b _ _ => b
  | .For _ _ b _ _ => b
  | _ => []
noncomputable def wElse : Stmt → List Stmt
  | .While _ _ e _ => e
  | .If _ _ e _ => e
  | .For _ _ _ e _ => e
  | _ => []
noncomputable def wTarget : Stmt → Expr
  | .For t _ _ _ _ => t
  | _ => noExp
noncomputable def sInit : Stmt := cStm sCls 1
noncomputable def sLong : Stmt := cStm sCls 2
noncomputable def sIndent : Stmt := cStm sCls 3
noncomputable def sEqual : Stmt := cStm sCls 4
noncomputable def sWitness : Stmt := cStm sCls 5
end Mine
open PySem PySem.W PyProof.Rows
open PySem.Builtin PySem.Builtin.Str
set_option Elab.async false
set_option maxRecDepth 100000
set_option linter.unusedVariables false
set_option autoImplicit false
set_option maxHeartbeats 1000000
namespace Mine
section
variable {c : Cx} {d : Nat}

noncomputable def MK : List Nat := [46, 46, 46]
noncomputable def ellGo (got : List Nat) (e : Nat) : List (List Nat) → Nat → Bool
  | [], _ => true
  | w :: ws, s => match findL got w s e with
    | none => false
    | some k => ellGo got e ws (k + w.length)
noncomputable def ell2 (got : List Nat) (ws : List (List Nat)) (s e : Nat) : Bool := if s > e then false else ellGo got e ws s
noncomputable def endsL (got w : List Nat) : Bool := decide (w.length ≤ got.length) && (got.drop (got.length - w.length) == w)
noncomputable def ell1 (got : List Nat) (ws : List (List Nat)) (s : Nat) : Bool :=
  if (ws.getLastD []).isEmpty then ell2 got ws s got.length
  else if endsL got (ws.getLastD []) then ell2 got ws.dropLast s (got.length - (ws.getLastD []).length) else false
noncomputable def ell0 (got : List Nat) : List (List Nat) → Bool
  | [] => false
  | w :: ws => if w.isEmpty then ell1 got (w :: ws) 0 else if w.isPrefixOf got then ell1 got ws w.length else false
noncomputable def ellF (want got : List Nat) : Bool := if (occS MK want 0 0).isEmpty then want == got else ell0 got (splitS MK want [] 0)

theorem splitS_len (sub : List Nat) : ∀ (r cur : List Nat) (i k : Nat), (splitS sub r cur k).length = (occS sub r i k).length + 1
  | [], _, _, _ => by simp [splitS, occS]
  | x :: r, cur, i, 0 => by
    rw [splitS, occS]
    split
    · simp [splitS_len sub r [] (i + 1)]
    · exact splitS_len sub r _ (i + 1) 0
  | x :: r, cur, i, k + 1 => by rw [splitS, occS]; exact splitS_len sub r _ (i + 1) k
theorem splitS_size (sub : List Nat) : ∀ (r cur : List Nat) (k : Nat), ∀ w ∈ splitS sub r cur k, w.length ≤ cur.length + r.length
  | [], cur, _, w, h => by simp [splitS] at h; subst h; lia
  | x :: r, cur, 0, w, h => by
    rw [splitS] at h
    split at h
    · rcases List.mem_cons.mp h with h | h
      · subst h; lia
      · have := splitS_size sub r [] _ w h; simp at this ⊢; lia
    · have := splitS_size sub r _ 0 w h; simp at this ⊢; lia
  | x :: r, cur, k + 1, w, h => by
    rw [splitS] at h
    have := splitS_size sub r cur k w h; simp; lia
theorem findN_le (s sub : List Nat) (hi : Nat) : ∀ (n i k : Nat), findN s sub hi n i = some k → k + sub.length ≤ hi
  | 0, _, _, h => by cases h
  | n + 1, i, k, h => by
    rw [findN] at h
    split at h
    · rename_i q; cases h; exact q.1
    · exact findN_le s sub hi n (i + 1) k h
theorem findL_le {s sub : List Nat} {lo hi k : Nat} (h : findL s sub lo hi = some k) : k + sub.length ≤ hi := findN_le _ _ _ _ _ _ h

/- the search -/
noncomputable abbrev bEll : Blk := fBlk sEll
noncomputable abbrev fEll : Stmt := nth (fBody sEll) 9
noncomputable abbrev rhoEll (want got : List Nat) (wsv : Bd) (s e : Int) (w : List Nat) : Rho := [("want", .val (.str want)), ("got", .val (.str got)), ("ws", wsv), ("endpos", .val (.int e)), ("startpos", .val (.int s)), ("w", .val (.str w))]
theorem ell_for (glen : GlobV c "len" (.builtin "len")) (want got : List Nat) (e : Nat) (hg : got.length < 1000000) (he : e ≤ got.length) (wsv : Bd) : ∀ (ws : List (List Nat)) (s : Nat) (w0 : List Nat), s ≤ e → (∀ w ∈ ws, w.length < 1000000) →
    (ellGo got e ws s = true → ∃ s' w', ForEx c bEll d (wTarget fEll) (wBody fEll) (wElse fEll) (strL ws) (rhoEll want got wsv s e w0) .next (rhoEll want got wsv s' e w')) ∧
    (ellGo got e ws s = false → ∃ ρ', ForEx c bEll d (wTarget fEll) (wBody fEll) (wElse fEll) (strL ws) (rhoEll want got wsv s e w0) (.ret (.bool false)) ρ') := by
  intro ws
  induction ws with
  | nil =>
    intro s w0 hs hw
    exact ⟨fun _ => ⟨s, w0, for_nil exec_nil⟩, fun h => (by simp [ellGo] at h)⟩
  | cons w ws ih =>
    intro s w0 hs hw
    rw [ellGo]
    cases q : findL got w s e with
    | none =>
      refine ⟨fun h => (by cases h), fun _ => ?_⟩
      refine ⟨_, for_ret (bind_name (by rfl)) (exec_cons (by (repeat' first | (with_reducible first | exact ev_int | exact ev_bool | assumption | exact evs_nil | exact op_neg_int _ | exact op_iadd_int _ _ | exact op_isub_int _ _ | exact op_lt_int _ _ | exact op_gt_int _ _ | exact op_ge_int _ _ | exact op_eq_str _ _ | exact tr_bool _ | exact op_startswith_L _ _ | exact op_endswith_L _ _ | exact callee_builtin _) | ((with_reducible apply ev_name) <;> exact rfl) | (with_reducible first | apply ev_glob | apply ev_meth' PySem.F.slot_str_startswith PySem.F.type_str_startswith | apply ev_meth' PySem.F.slot_str_endswith PySem.F.type_str_endswith | apply ev_meth' PySem.F.slot_str_find PySem.F.type_str_find | apply ev_cmp | apply ev_un | apply ev_sub | apply ev_tup' | apply ev_call' | apply evs_cons' | apply op_len_str | apply op_len_list | apply op_find_L | apply op_notin_L | apply tr_str | apply test_cmp | apply ex_assign | apply ex_aug) | ((with_reducible apply test_attr'); (intro _ _; rfl)) | ((with_reducible first | apply item_list); (· first | assumption | rfl)) | with_reducible exact nlo _ | with_reducible exact nhi h7 (by assumption) | ((first | with_reducible show (_ ≤ _) | with_reducible show (_ < _)); first | decide | lia) | apply test_cmp | exact rfl | exact fun _ => rfl | exact fun _ _ => rfl | exact fun _ _ => .str _ _ | decide | lia | (simp only [List.length_cons, List.length_nil, List.length_append, List.length_map, List.length_replicate]; lia) | (simp_all; done))) (exec_if_ret (t := true) (test_eq (by (repeat' first | (with_reducible first | exact ev_int | exact ev_bool | assumption | exact evs_nil | exact op_neg_int _ | exact op_iadd_int _ _ | exact op_isub_int _ _ | exact op_lt_int _ _ | exact op_gt_int _ _ | exact op_ge_int _ _ | exact op_eq_str _ _ | exact tr_bool _ | exact op_startswith_L _ _ | exact op_endswith_L _ _ | exact callee_builtin _) | ((with_reducible apply ev_name) <;> exact rfl) | (with_reducible first | apply ev_glob | apply ev_meth' PySem.F.slot_str_startswith PySem.F.type_str_startswith | apply ev_meth' PySem.F.slot_str_endswith PySem.F.type_str_endswith | apply ev_meth' PySem.F.slot_str_find PySem.F.type_str_find | apply ev_cmp | apply ev_un | apply ev_sub | apply ev_tup' | apply ev_call' | apply evs_cons' | apply op_len_str | apply op_len_list | apply op_find_L | apply op_notin_L | apply tr_str | apply test_cmp | apply ex_assign | apply ex_aug) | ((with_reducible apply test_attr'); (intro _ _; rfl)) | ((with_reducible first | apply item_list); (· first | assumption | rfl)) | with_reducible exact nlo _ | with_reducible exact nhi h7 (by assumption) | ((first | with_reducible show (_ ≤ _) | with_reducible show (_ < _)); first | decide | lia) | apply test_cmp | exact rfl | exact fun _ => rfl | exact fun _ _ => rfl | exact fun _ _ => .str _ _ | decide | lia | (simp only [List.length_cons, List.length_nil, List.length_append, List.length_map, List.length_replicate]; lia) | (simp_all; done))) ?_) (exec_ret (by (repeat' first | (with_reducible first | exact ev_int | exact ev_bool | assumption | exact evs_nil | exact op_neg_int _ | exact op_iadd_int _ _ | exact op_isub_int _ _ | exact op_lt_int _ _ | exact op_gt_int _ _ | exact op_ge_int _ _ | exact op_eq_str _ _ | exact tr_bool _ | exact op_startswith_L _ _ | exact op_endswith_L _ _ | exact callee_builtin _) | ((with_reducible apply ev_name) <;> exact rfl) | (with_reducible first | apply ev_glob | apply ev_meth' PySem.F.slot_str_startswith PySem.F.type_str_startswith | apply ev_meth' PySem.F.slot_str_endswith PySem.F.type_str_endswith | apply ev_meth' PySem.F.slot_str_find PySem.F.type_str_find | apply ev_cmp | apply ev_un | apply ev_sub | apply ev_tup' | apply ev_call' | apply evs_cons' | apply op_len_str | apply op_len_list | apply op_find_L | apply op_notin_L | apply tr_str | apply test_cmp | apply ex_assign | apply ex_aug) | ((with_reducible apply test_attr'); (intro _ _; rfl)) | ((with_reducible first | apply item_list); (· first | assumption | rfl)) | with_reducible exact nlo _ | with_reducible exact nhi h7 (by assumption) | ((first | with_reducible show (_ ≤ _) | with_reducible show (_ < _)); first | decide | lia) | apply test_cmp | exact rfl | exact fun _ => rfl | exact fun _ _ => rfl | exact fun _ _ => .str _ _ | decide | lia | (simp only [List.length_cons, List.length_nil, List.length_append, List.length_map, List.length_replicate]; lia) | (simp_all; done))))))⟩
      rw [q]; rfl
    | some k =>
      have hk := findL_le q
      obtain ⟨h1, h2⟩ := ih (k + w.length : Nat) w hk (fun u hu => hw u (List.mem_cons_of_mem _ hu))
      have hwl := hw w List.mem_cons_self
      have step : ∃ ρ₁, Exec c bEll d (wBody fEll) (rhoEll want got wsv s e w) .next ρ₁ ∧ ρ₁ = rhoEll want got wsv ((k + w.length : Nat) : Int) e w := by
        refine ⟨_, exec_cons (by (repeat' first | (with_reducible first | exact ev_int | exact ev_bool | assumption | exact evs_nil | exact op_neg_int _ | exact op_iadd_int _ _ | exact op_isub_int _ _ | exact op_lt_int _ _ | exact op_gt_int _ _ | exact op_ge_int _ _ | exact op_eq_str _ _ | exact tr_bool _ | exact op_startswith_L _ _ | exact op_endswith_L _ _ | exact callee_builtin _) | ((with_reducible apply ev_name) <;> exact rfl) | (with_reducible first | apply ev_glob | apply ev_meth' PySem.F.slot_str_startswith PySem.F.type_str_startswith | apply ev_meth' PySem.F.slot_str_endswith PySem.F.type_str_endswith | apply ev_meth' PySem.F.slot_str_find PySem.F.type_str_find | apply ev_cmp | apply ev_un | apply ev_sub | apply ev_tup' | apply ev_call' | apply evs_cons' | apply op_len_str | apply op_len_list | apply op_find_L | apply op_notin_L | apply tr_str | apply test_cmp | apply ex_assign | apply ex_aug) | ((with_reducible apply test_attr'); (intro _ _; rfl)) | ((with_reducible first | apply item_list); (· first | assumption | rfl)) | with_reducible exact nlo _ | with_reducible exact nhi h7 (by assumption) | ((first | with_reducible show (_ ≤ _) | with_reducible show (_ < _)); first | decide | lia) | apply test_cmp | exact rfl | exact fun _ => rfl | exact fun _ _ => rfl | exact fun _ _ => .str _ _ | decide | lia | (simp only [List.length_cons, List.length_nil, List.length_append, List.length_map, List.length_replicate]; lia) | (simp_all; done))) (exec_cons (ex_if_f (by (repeat' first | (with_reducible first | exact ev_int | exact ev_bool | assumption | exact evs_nil | exact op_neg_int _ | exact op_iadd_int _ _ | exact op_isub_int _ _ | exact op_lt_int _ _ | exact op_gt_int _ _ | exact op_ge_int _ _ | exact op_eq_str _ _ | exact tr_bool _ | exact op_startswith_L _ _ | exact op_endswith_L _ _ | exact callee_builtin _) | ((with_reducible apply ev_name) <;> exact rfl) | (with_reducible first | apply ev_glob | apply ev_meth' PySem.F.slot_str_startswith PySem.F.type_str_startswith | apply ev_meth' PySem.F.slot_str_endswith PySem.F.type_str_endswith | apply ev_meth' PySem.F.slot_str_find PySem.F.type_str_find | apply ev_cmp | apply ev_un | apply ev_sub | apply ev_tup' | apply ev_call' | apply evs_cons' | apply op_len_str | apply op_len_list | apply op_find_L | apply op_notin_L | apply tr_str | apply test_cmp | apply ex_assign | apply ex_aug) | ((with_reducible apply test_attr'); (intro _ _; rfl)) | ((with_reducible first | apply item_list); (· first | assumption | rfl)) | with_reducible exact nlo _ | with_reducible exact nhi h7 (by assumption) | ((first | with_reducible show (_ ≤ _) | with_reducible show (_ < _)); first | decide | lia) | apply test_cmp | exact rfl | exact fun _ => rfl | exact fun _ _ => rfl | exact fun _ _ => .str _ _ | decide | lia | (simp only [List.length_cons, List.length_nil, List.length_append, List.length_map, List.length_replicate]; lia) | (simp_all; done))) ?_ exec_nil) (exec_cons (by (repeat' first | (with_reducible first | exact ev_int | exact ev_bool | assumption | exact evs_nil | exact op_neg_int _ | exact op_iadd_int _ _ | exact op_isub_int _ _ | exact op_lt_int _ _ | exact op_gt_int _ _ | exact op_ge_int _ _ | exact op_eq_str _ _ | exact tr_bool _ | exact op_startswith_L _ _ | exact op_endswith_L _ _ | exact callee_builtin _) | ((with_reducible apply ev_name) <;> exact rfl) | (with_reducible first | apply ev_glob | apply ev_meth' PySem.F.slot_str_startswith PySem.F.type_str_startswith | apply ev_meth' PySem.F.slot_str_endswith PySem.F.type_str_endswith | apply ev_meth' PySem.F.slot_str_find PySem.F.type_str_find | apply ev_cmp | apply ev_un | apply ev_sub | apply ev_tup' | apply ev_call' | apply evs_cons' | apply op_len_str | apply op_len_list | apply op_find_L | apply op_notin_L | apply tr_str | apply test_cmp | apply ex_assign | apply ex_aug) | ((with_reducible apply test_attr'); (intro _ _; rfl)) | ((with_reducible first | apply item_list); (· first | assumption | rfl)) | with_reducible exact nlo _ | with_reducible exact nhi h7 (by assumption) | ((first | with_reducible show (_ ≤ _) | with_reducible show (_ < _)); first | decide | lia) | apply test_cmp | exact rfl | exact fun _ => rfl | exact fun _ _ => rfl | exact fun _ _ => .str _ _ | decide | lia | (simp only [List.length_cons, List.length_nil, List.length_append, List.length_map, List.length_replicate]; lia) | (simp_all; done))) exec_nil)), ?_⟩
        · rw [q]; exact decide_eq_false (by show ¬ ((k : Int) < 0); lia)
        · rw [q]; rfl
      obtain ⟨ρ₁, hx, rfl⟩ := step
      refine ⟨fun h => ?_, fun h => ?_⟩
      · obtain ⟨s', w', h⟩ := h1 h
        exact ⟨s', w', for_cons (bind_name (by rfl)) hx h⟩
      · obtain ⟨ρ', h⟩ := h2 h
        exact ⟨ρ', for_cons (bind_name (by rfl)) hx h⟩

theorem ell_tail (glen : GlobV c "len" (.builtin "len")) (want got w0 : List Nat) (ws : List (List Nat)) (s e : Nat) (hg : got.length < 1000000) (hw : ∀ w ∈ ws, w.length < 1000000) (he : e ≤ got.length) :
    Ret c bEll d ((fBody sEll).drop 8) (rhoEll want got (.own (strL ws)) s e w0) (.bool (ell2 got ws s e)) := by
  unfold ell2
  by_cases hs : s > e
  · rw [if_pos hs]
    exact ret_if_t (by (repeat' first | (with_reducible first | exact ev_int | exact ev_bool | assumption | exact evs_nil | exact op_neg_int _ | exact op_iadd_int _ _ | exact op_isub_int _ _ | exact op_lt_int _ _ | exact op_gt_int _ _ | exact op_ge_int _ _ | exact op_eq_str _ _ | exact tr_bool _ | exact op_startswith_L _ _ | exact op_endswith_L _ _ | exact callee_builtin _) | ((with_reducible apply ev_name) <;> exact rfl) | (with_reducible first | apply ev_glob | apply ev_meth' PySem.F.slot_str_startswith PySem.F.type_str_startswith | apply ev_meth' PySem.F.slot_str_endswith PySem.F.type_str_endswith | apply ev_meth' PySem.F.slot_str_find PySem.F.type_str_find | apply ev_cmp | apply ev_un | apply ev_sub | apply ev_tup' | apply ev_call' | apply evs_cons' | apply op_len_str | apply op_len_list | apply op_find_L | apply op_notin_L | apply tr_str | apply test_cmp | apply ex_assign | apply ex_aug) | ((with_reducible apply test_attr'); (intro _ _; rfl)) | ((with_reducible first | apply item_list); (· first | assumption | rfl)) | with_reducible exact nlo _ | with_reducible exact nhi h7 (by assumption) | ((first | with_reducible show (_ ≤ _) | with_reducible show (_ < _)); first | decide | lia) | apply test_cmp | exact rfl | exact fun _ => rfl | exact fun _ _ => rfl | exact fun _ _ => .str _ _ | decide | lia | (simp only [List.length_cons, List.length_nil, List.length_append, List.length_map, List.length_replicate]; lia) | (simp_all; done))) (decide_eq_true (by lia)) (ret_ret (by (repeat' first | (with_reducible first | exact ev_int | exact ev_bool | assumption | exact evs_nil | exact op_neg_int _ | exact op_iadd_int _ _ | exact op_isub_int _ _ | exact op_lt_int _ _ | exact op_gt_int _ _ | exact op_ge_int _ _ | exact op_eq_str _ _ | exact tr_bool _ | exact op_startswith_L _ _ | exact op_endswith_L _ _ | exact callee_builtin _) | ((with_reducible apply ev_name) <;> exact rfl) | (with_reducible first | apply ev_glob | apply ev_meth' PySem.F.slot_str_startswith PySem.F.type_str_startswith | apply ev_meth' PySem.F.slot_str_endswith PySem.F.type_str_endswith | apply ev_meth' PySem.F.slot_str_find PySem.F.type_str_find | apply ev_cmp | apply ev_un | apply ev_sub | apply ev_tup' | apply ev_call' | apply evs_cons' | apply op_len_str | apply op_len_list | apply op_find_L | apply op_notin_L | apply tr_str | apply test_cmp | apply ex_assign | apply ex_aug) | ((with_reducible apply test_attr'); (intro _ _; rfl)) | ((with_reducible first | apply item_list); (· first | assumption | rfl)) | with_reducible exact nlo _ | with_reducible exact nhi h7 (by assumption) | ((first | with_reducible show (_ ≤ _) | with_reducible show (_ < _)); first | decide | lia) | apply test_cmp | exact rfl | exact fun _ => rfl | exact fun _ _ => rfl | exact fun _ _ => .str _ _ | decide | lia | (simp only [List.length_cons, List.length_nil, List.length_append, List.length_map, List.length_replicate]; lia) | (simp_all; done))))
  · rw [if_neg hs]
    refine ret_skip (by (repeat' first | (with_reducible first | exact ev_int | exact ev_bool | assumption | exact evs_nil | exact op_neg_int _ | exact op_iadd_int _ _ | exact op_isub_int _ _ | exact op_lt_int _ _ | exact op_gt_int _ _ | exact op_ge_int _ _ | exact op_eq_str _ _ | exact tr_bool _ | exact op_startswith_L _ _ | exact op_endswith_L _ _ | exact callee_builtin _) | ((with_reducible apply ev_name) <;> exact rfl) | (with_reducible first | apply ev_glob | apply ev_meth' PySem.F.slot_str_startswith PySem.F.type_str_startswith | apply ev_meth' PySem.F.slot_str_endswith PySem.F.type_str_endswith | apply ev_meth' PySem.F.slot_str_find PySem.F.type_str_find | apply ev_cmp | apply ev_un | apply ev_sub | apply ev_tup' | apply ev_call' | apply evs_cons' | apply op_len_str | apply op_len_list | apply op_find_L | apply op_notin_L | apply tr_str | apply test_cmp | apply ex_assign | apply ex_aug) | ((with_reducible apply test_attr'); (intro _ _; rfl)) | ((with_reducible first | apply item_list); (· first | assumption | rfl)) | with_reducible exact nlo _ | with_reducible exact nhi h7 (by assumption) | ((first | with_reducible show (_ ≤ _) | with_reducible show (_ < _)); first | decide | lia) | apply test_cmp | exact rfl | exact fun _ => rfl | exact fun _ _ => rfl | exact fun _ _ => .str _ _ | decide | lia | (simp only [List.length_cons, List.length_nil, List.length_append, List.length_map, List.length_replicate]; lia) | (simp_all; done))) (decide_eq_false (by lia)) ?_
    refine ret_freeze (x := "ws") rfl ?_
    obtain ⟨h1, h2⟩ := ell_for (d := d) glen want got e hg he (.val (.list (strL ws))) ws s w0 (by lia) hw
    cases q : ellGo got e ws s with
    | true =>
      obtain ⟨s', w', h⟩ := h1 q
      exact ret_cons (ex_for (p := .list (strL ws)) (by (repeat' first | (with_reducible first | exact ev_int | exact ev_bool | assumption | exact evs_nil | exact op_neg_int _ | exact op_iadd_int _ _ | exact op_isub_int _ _ | exact op_lt_int _ _ | exact op_gt_int _ _ | exact op_ge_int _ _ | exact op_eq_str _ _ | exact tr_bool _ | exact op_startswith_L _ _ | exact op_endswith_L _ _ | exact callee_builtin _) | ((with_reducible apply ev_name) <;> exact rfl) | (with_reducible first | apply ev_glob | apply ev_meth' PySem.F.slot_str_startswith PySem.F.type_str_startswith | apply ev_meth' PySem.F.slot_str_endswith PySem.F.type_str_endswith | apply ev_meth' PySem.F.slot_str_find PySem.F.type_str_find | apply ev_cmp | apply ev_un | apply ev_sub | apply ev_tup' | apply ev_call' | apply evs_cons' | apply op_len_str | apply op_len_list | apply op_find_L | apply op_notin_L | apply tr_str | apply test_cmp | apply ex_assign | apply ex_aug) | ((with_reducible apply test_attr'); (intro _ _; rfl)) | ((with_reducible first | apply item_list); (· first | assumption | rfl)) | with_reducible exact nlo _ | with_reducible exact nhi h7 (by assumption) | ((first | with_reducible show (_ ≤ _) | with_reducible show (_ < _)); first | decide | lia) | apply test_cmp | exact rfl | exact fun _ => rfl | exact fun _ _ => rfl | exact fun _ _ => .str _ _ | decide | lia | (simp only [List.length_cons, List.length_nil, List.length_append, List.length_map, List.length_replicate]; lia) | (simp_all; done))) trivial h (by intro _ _; rfl)) (ret_ret (by (repeat' first | (with_reducible first | exact ev_int | exact ev_bool | assumption | exact evs_nil | exact op_neg_int _ | exact op_iadd_int _ _ | exact op_isub_int _ _ | exact op_lt_int _ _ | exact op_gt_int _ _ | exact op_ge_int _ _ | exact op_eq_str _ _ | exact tr_bool _ | exact op_startswith_L _ _ | exact op_endswith_L _ _ | exact callee_builtin _) | ((with_reducible apply ev_name) <;> exact rfl) | (with_reducible first | apply ev_glob | apply ev_meth' PySem.F.slot_str_startswith PySem.F.type_str_startswith | apply ev_meth' PySem.F.slot_str_endswith PySem.F.type_str_endswith | apply ev_meth' PySem.F.slot_str_find PySem.F.type_str_find | apply ev_cmp | apply ev_un | apply ev_sub | apply ev_tup' | apply ev_call' | apply evs_cons' | apply op_len_str | apply op_len_list | apply op_find_L | apply op_notin_L | apply tr_str | apply test_cmp | apply ex_assign | apply ex_aug) | ((with_reducible apply test_attr'); (intro _ _; rfl)) | ((with_reducible first | apply item_list); (· first | assumption | rfl)) | with_reducible exact nlo _ | with_reducible exact nhi h7 (by assumption) | ((first | with_reducible show (_ ≤ _) | with_reducible show (_ < _)); first | decide | lia) | apply test_cmp | exact rfl | exact fun _ => rfl | exact fun _ _ => rfl | exact fun _ _ => .str _ _ | decide | lia | (simp only [List.length_cons, List.length_nil, List.length_append, List.length_map, List.length_replicate]; lia) | (simp_all; done))))
    | false =>
      obtain ⟨ρ', h⟩ := h2 q
      exact ret_stop (ex_for (p := .list (strL ws)) (by (repeat' first | (with_reducible first | exact ev_int | exact ev_bool | assumption | exact evs_nil | exact op_neg_int _ | exact op_iadd_int _ _ | exact op_isub_int _ _ | exact op_lt_int _ _ | exact op_gt_int _ _ | exact op_ge_int _ _ | exact op_eq_str _ _ | exact tr_bool _ | exact op_startswith_L _ _ | exact op_endswith_L _ _ | exact callee_builtin _) | ((with_reducible apply ev_name) <;> exact rfl) | (with_reducible first | apply ev_glob | apply ev_meth' PySem.F.slot_str_startswith PySem.F.type_str_startswith | apply ev_meth' PySem.F.slot_str_endswith PySem.F.type_str_endswith | apply ev_meth' PySem.F.slot_str_find PySem.F.type_str_find | apply ev_cmp | apply ev_un | apply ev_sub | apply ev_tup' | apply ev_call' | apply evs_cons' | apply op_len_str | apply op_len_list | apply op_find_L | apply op_notin_L | apply tr_str | apply test_cmp | apply ex_assign | apply ex_aug) | ((with_reducible apply test_attr'); (intro _ _; rfl)) | ((with_reducible first | apply item_list); (· first | assumption | rfl)) | with_reducible exact nlo _ | with_reducible exact nhi h7 (by assumption) | ((first | with_reducible show (_ ≤ _) | with_reducible show (_ < _)); first | decide | lia) | apply test_cmp | exact rfl | exact fun _ => rfl | exact fun _ _ => rfl | exact fun _ _ => .str _ _ | decide | lia | (simp only [List.length_cons, List.length_nil, List.length_append, List.length_map, List.length_replicate]; lia) | (simp_all; done))) trivial h (by intro _ _; rfl))

theorem getLast_item (ws : List (List Nat)) (h : ws ≠ []) : itemAt (strL ws) (-1) = some (.str (ws.getLastD [])) := by
  obtain ⟨l, w, rfl⟩ : ∃ l w, ws = l ++ [w] := ⟨ws.dropLast, ws.getLast h, (List.dropLast_concat_getLast h).symm⟩
  rw [show (l ++ [w]).getLastD [] = w by simp]
  unfold strL
  rw [List.map_append]; exact itemAt_last _ _
theorem erase_last (ws : List (List Nat)) : (strL ws).eraseIdx (ws.length - 1) = strL ws.dropLast := by
  have : (strL ws).length = ws.length := by simp [strL]
  rw [← this, List.eraseIdx_length_sub_one]
  unfold strL
  rw [List.map_dropLast]
theorem getLastD_mem (ws : List (List Nat)) (h : ws ≠ []) : ws.getLastD [] ∈ ws := by
  rw [List.getLastD_eq_getLast?, List.getLast?_eq_some_getLast h]
  exact List.getLast_mem h

theorem ell_mid (glen : GlobV c "len" (.builtin "len")) (want got w0 : List Nat) (ws : List (List Nat)) (s : Nat) (hg : got.length < 1000000) (hw : ∀ w ∈ ws, w.length < 1000000) (hne : ws ≠ []) (hl : ws.length < 1000000) :
    Ret c bEll d ((fBody sEll).drop 6) (rhoEll want got (.own (strL ws)) s got.length w0) (.bool (ell1 got ws s)) := by
  have hit := getLast_item ws hne
  have hwl := hw _ (getLastD_mem ws hne)
  refine ret_cons (ρ₁ := rhoEll want got (.own (strL ws)) s got.length (ws.getLastD [])) (ex_assign (ev_own (x := "ws") (l := strL ws) rfl (by (repeat' first | (with_reducible first | exact ev_int | exact ev_bool | assumption | exact evs_nil | exact op_neg_int _ | exact op_iadd_int _ _ | exact op_isub_int _ _ | exact op_lt_int _ _ | exact op_gt_int _ _ | exact op_ge_int _ _ | exact op_eq_str _ _ | exact tr_bool _ | exact op_startswith_L _ _ | exact op_endswith_L _ _ | exact callee_builtin _) | ((with_reducible apply ev_name) <;> exact rfl) | (with_reducible first | apply ev_glob | apply ev_meth' PySem.F.slot_str_startswith PySem.F.type_str_startswith | apply ev_meth' PySem.F.slot_str_endswith PySem.F.type_str_endswith | apply ev_meth' PySem.F.slot_str_find PySem.F.type_str_find | apply ev_cmp | apply ev_un | apply ev_sub | apply ev_tup' | apply ev_call' | apply evs_cons' | apply op_len_str | apply op_len_list | apply op_find_L | apply op_notin_L | apply tr_str | apply test_cmp | apply ex_assign | apply ex_aug) | ((with_reducible apply test_attr'); (intro _ _; rfl)) | ((with_reducible first | apply item_list); (· first | assumption | rfl)) | with_reducible exact nlo _ | with_reducible exact nhi h7 (by assumption) | ((first | with_reducible show (_ ≤ _) | with_reducible show (_ < _)); first | decide | lia) | apply test_cmp | exact rfl | exact fun _ => rfl | exact fun _ _ => rfl | exact fun _ _ => .str _ _ | decide | lia | (simp only [List.length_cons, List.length_nil, List.length_append, List.length_map, List.length_replicate]; lia) | (simp_all; done))) rfl) (by rfl) (by intro _ _; rfl)) ?_
  unfold ell1
  generalize ws.getLastD [] = w at hit hwl ⊢
  cases q : w.isEmpty with
  | true =>
    rw [if_pos rfl]
    exact ret_skip (by (repeat' first | (with_reducible first | exact ev_int | exact ev_bool | assumption | exact evs_nil | exact op_neg_int _ | exact op_iadd_int _ _ | exact op_isub_int _ _ | exact op_lt_int _ _ | exact op_gt_int _ _ | exact op_ge_int _ _ | exact op_eq_str _ _ | exact tr_bool _ | exact op_startswith_L _ _ | exact op_endswith_L _ _ | exact callee_builtin _) | ((with_reducible apply ev_name) <;> exact rfl) | (with_reducible first | apply ev_glob | apply ev_meth' PySem.F.slot_str_startswith PySem.F.type_str_startswith | apply ev_meth' PySem.F.slot_str_endswith PySem.F.type_str_endswith | apply ev_meth' PySem.F.slot_str_find PySem.F.type_str_find | apply ev_cmp | apply ev_un | apply ev_sub | apply ev_tup' | apply ev_call' | apply evs_cons' | apply op_len_str | apply op_len_list | apply op_find_L | apply op_notin_L | apply tr_str | apply test_cmp | apply ex_assign | apply ex_aug) | ((with_reducible apply test_attr'); (intro _ _; rfl)) | ((with_reducible first | apply item_list); (· first | assumption | rfl)) | with_reducible exact nlo _ | with_reducible exact nhi h7 (by assumption) | ((first | with_reducible show (_ ≤ _) | with_reducible show (_ < _)); first | decide | lia) | apply test_cmp | exact rfl | exact fun _ => rfl | exact fun _ _ => rfl | exact fun _ _ => .str _ _ | decide | lia | (simp only [List.length_cons, List.length_nil, List.length_append, List.length_map, List.length_replicate]; lia) | (simp_all; done))) (by rw [q]; rfl) (ell_tail glen want got w ws s got.length hg hw (Nat.le_refl _))
  | false =>
    rw [if_neg (by decide)]
    cases q2 : endsL got w with
    | true =>
      rw [if_pos rfl]
      have hle : w.length ≤ got.length := by unfold endsL at q2; simp at q2; exact q2.1
      have hj : seqIndex? (-1) (strL ws).length = some (ws.length - 1) := by
        have e : (strL ws).length = ws.length := by simp [strL]
        obtain ⟨n, hn⟩ : ∃ n, ws.length = n + 1 := ⟨_, (Nat.succ_pred_eq_of_pos (List.length_pos_iff.mpr hne)).symm⟩
        have e1 : (-1 : Int) + ((n + 1 : Nat) : Int) = n := by rw [Int.add_comm]; exact Int.add_sub_cancel (n : Int) 1
        unfold seqIndex?
        have h2 : (decide (0 ≤ (n : Int)) && decide ((n : Int) < ((n + 1 : Nat) : Int))) = true := by rw [decide_eq_true (Int.natCast_nonneg n), decide_eq_true (Int.ofNat_lt.mpr (Nat.lt_succ_self n))]; rfl
        rw [e, hn]
        simp only [show ((-1 : Int) < 0) by decide, if_true, e1, h2]
        rw [Int.toNat_natCast]; rfl
      refine ret_cons (ρ₁ := rhoEll want got (.own (strL ws.dropLast)) s ((got.length - w.length : Nat) : Int) w) (ex_if_t (by (repeat' first | (with_reducible first | exact ev_int | exact ev_bool | assumption | exact evs_nil | exact op_neg_int _ | exact op_iadd_int _ _ | exact op_isub_int _ _ | exact op_lt_int _ _ | exact op_gt_int _ _ | exact op_ge_int _ _ | exact op_eq_str _ _ | exact tr_bool _ | exact op_startswith_L _ _ | exact op_endswith_L _ _ | exact callee_builtin _) | ((with_reducible apply ev_name) <;> exact rfl) | (with_reducible first | apply ev_glob | apply ev_meth' PySem.F.slot_str_startswith PySem.F.type_str_startswith | apply ev_meth' PySem.F.slot_str_endswith PySem.F.type_str_endswith | apply ev_meth' PySem.F.slot_str_find PySem.F.type_str_find | apply ev_cmp | apply ev_un | apply ev_sub | apply ev_tup' | apply ev_call' | apply evs_cons' | apply op_len_str | apply op_len_list | apply op_find_L | apply op_notin_L | apply tr_str | apply test_cmp | apply ex_assign | apply ex_aug) | ((with_reducible apply test_attr'); (intro _ _; rfl)) | ((with_reducible first | apply item_list); (· first | assumption | rfl)) | with_reducible exact nlo _ | with_reducible exact nhi h7 (by assumption) | ((first | with_reducible show (_ ≤ _) | with_reducible show (_ < _)); first | decide | lia) | apply test_cmp | exact rfl | exact fun _ => rfl | exact fun _ _ => rfl | exact fun _ _ => .str _ _ | decide | lia | (simp only [List.length_cons, List.length_nil, List.length_append, List.length_map, List.length_replicate]; lia) | (simp_all; done))) (by rw [q]; rfl) (exec_one (ex_if_t (by (repeat' first | (with_reducible first | exact ev_int | exact ev_bool | assumption | exact evs_nil | exact op_neg_int _ | exact op_iadd_int _ _ | exact op_isub_int _ _ | exact op_lt_int _ _ | exact op_gt_int _ _ | exact op_ge_int _ _ | exact op_eq_str _ _ | exact tr_bool _ | exact op_startswith_L _ _ | exact op_endswith_L _ _ | exact callee_builtin _) | ((with_reducible apply ev_name) <;> exact rfl) | (with_reducible first | apply ev_glob | apply ev_meth' PySem.F.slot_str_startswith PySem.F.type_str_startswith | apply ev_meth' PySem.F.slot_str_endswith PySem.F.type_str_endswith | apply ev_meth' PySem.F.slot_str_find PySem.F.type_str_find | apply ev_cmp | apply ev_un | apply ev_sub | apply ev_tup' | apply ev_call' | apply evs_cons' | apply op_len_str | apply op_len_list | apply op_find_L | apply op_notin_L | apply tr_str | apply test_cmp | apply ex_assign | apply ex_aug) | ((with_reducible apply test_attr'); (intro _ _; rfl)) | ((with_reducible first | apply item_list); (· first | assumption | rfl)) | with_reducible exact nlo _ | with_reducible exact nhi h7 (by assumption) | ((first | with_reducible show (_ ≤ _) | with_reducible show (_ < _)); first | decide | lia) | apply test_cmp | exact rfl | exact fun _ => rfl | exact fun _ _ => rfl | exact fun _ _ => .str _ _ | decide | lia | (simp only [List.length_cons, List.length_nil, List.length_append, List.length_map, List.length_replicate]; lia) | (simp_all; done))) (by exact q2) (exec_cons (by (repeat' first | (with_reducible first | exact ev_int | exact ev_bool | assumption | exact evs_nil | exact op_neg_int _ | exact op_iadd_int _ _ | exact op_isub_int _ _ | exact op_lt_int _ _ | exact op_gt_int _ _ | exact op_ge_int _ _ | exact op_eq_str _ _ | exact tr_bool _ | exact op_startswith_L _ _ | exact op_endswith_L _ _ | exact callee_builtin _) | ((with_reducible apply ev_name) <;> exact rfl) | (with_reducible first | apply ev_glob | apply ev_meth' PySem.F.slot_str_startswith PySem.F.type_str_startswith | apply ev_meth' PySem.F.slot_str_endswith PySem.F.type_str_endswith | apply ev_meth' PySem.F.slot_str_find PySem.F.type_str_find | apply ev_cmp | apply ev_un | apply ev_sub | apply ev_tup' | apply ev_call' | apply evs_cons' | apply op_len_str | apply op_len_list | apply op_find_L | apply op_notin_L | apply tr_str | apply test_cmp | apply ex_assign | apply ex_aug) | ((with_reducible apply test_attr'); (intro _ _; rfl)) | ((with_reducible first | apply item_list); (· first | assumption | rfl)) | with_reducible exact nlo _ | with_reducible exact nhi h7 (by assumption) | ((first | with_reducible show (_ ≤ _) | with_reducible show (_ < _)); first | decide | lia) | apply test_cmp | exact rfl | exact fun _ => rfl | exact fun _ _ => rfl | exact fun _ _ => .str _ _ | decide | lia | (simp only [List.length_cons, List.length_nil, List.length_append, List.length_map, List.length_replicate]; lia) | (simp_all; done))) (exec_one ?_))))) ?_
      · rw [← erase_last, show ((got.length - w.length : Nat) : Int) = (got.length : Int) - (w.length : Int) by lia]
        exact ex_del (l := strL ws) rfl (by (repeat' first | (with_reducible first | exact ev_int | exact ev_bool | assumption | exact evs_nil | exact op_neg_int _ | exact op_iadd_int _ _ | exact op_isub_int _ _ | exact op_lt_int _ _ | exact op_gt_int _ _ | exact op_ge_int _ _ | exact op_eq_str _ _ | exact tr_bool _ | exact op_startswith_L _ _ | exact op_endswith_L _ _ | exact callee_builtin _) | ((with_reducible apply ev_name) <;> exact rfl) | (with_reducible first | apply ev_glob | apply ev_meth' PySem.F.slot_str_startswith PySem.F.type_str_startswith | apply ev_meth' PySem.F.slot_str_endswith PySem.F.type_str_endswith | apply ev_meth' PySem.F.slot_str_find PySem.F.type_str_find | apply ev_cmp | apply ev_un | apply ev_sub | apply ev_tup' | apply ev_call' | apply evs_cons' | apply op_len_str | apply op_len_list | apply op_find_L | apply op_notin_L | apply tr_str | apply test_cmp | apply ex_assign | apply ex_aug) | ((with_reducible apply test_attr'); (intro _ _; rfl)) | ((with_reducible first | apply item_list); (· first | assumption | rfl)) | with_reducible exact nlo _ | with_reducible exact nhi h7 (by assumption) | ((first | with_reducible show (_ ≤ _) | with_reducible show (_ < _)); first | decide | lia) | apply test_cmp | exact rfl | exact fun _ => rfl | exact fun _ _ => rfl | exact fun _ _ => .str _ _ | decide | lia | (simp only [List.length_cons, List.length_nil, List.length_append, List.length_map, List.length_replicate]; lia) | (simp_all; done))) (by rfl) (by simp [strL]; lia) hj (by decide) (by decide)
      · exact ell_tail glen want got w ws.dropLast s _ hg (fun u hu => hw u ((List.dropLast_subset _) hu)) (by lia)
    | false =>
      rw [if_neg (by decide)]
      exact ret_if_t (by (repeat' first | (with_reducible first | exact ev_int | exact ev_bool | assumption | exact evs_nil | exact op_neg_int _ | exact op_iadd_int _ _ | exact op_isub_int _ _ | exact op_lt_int _ _ | exact op_gt_int _ _ | exact op_ge_int _ _ | exact op_eq_str _ _ | exact tr_bool _ | exact op_startswith_L _ _ | exact op_endswith_L _ _ | exact callee_builtin _) | ((with_reducible apply ev_name) <;> exact rfl) | (with_reducible first | apply ev_glob | apply ev_meth' PySem.F.slot_str_startswith PySem.F.type_str_startswith | apply ev_meth' PySem.F.slot_str_endswith PySem.F.type_str_endswith | apply ev_meth' PySem.F.slot_str_find PySem.F.type_str_find | apply ev_cmp | apply ev_un | apply ev_sub | apply ev_tup' | apply ev_call' | apply evs_cons' | apply op_len_str | apply op_len_list | apply op_find_L | apply op_notin_L | apply tr_str | apply test_cmp | apply ex_assign | apply ex_aug) | ((with_reducible apply test_attr'); (intro _ _; rfl)) | ((with_reducible first | apply item_list); (· first | assumption | rfl)) | with_reducible exact nlo _ | with_reducible exact nhi h7 (by assumption) | ((first | with_reducible show (_ ≤ _) | with_reducible show (_ < _)); first | decide | lia) | apply test_cmp | exact rfl | exact fun _ => rfl | exact fun _ _ => rfl | exact fun _ _ => .str _ _ | decide | lia | (simp only [List.length_cons, List.length_nil, List.length_append, List.length_map, List.length_replicate]; lia) | (simp_all; done))) (by rw [q]; rfl) (ret_if_f (by (repeat' first | (with_reducible first | exact ev_int | exact ev_bool | assumption | exact evs_nil | exact op_neg_int _ | exact op_iadd_int _ _ | exact op_isub_int _ _ | exact op_lt_int _ _ | exact op_gt_int _ _ | exact op_ge_int _ _ | exact op_eq_str _ _ | exact tr_bool _ | exact op_startswith_L _ _ | exact op_endswith_L _ _ | exact callee_builtin _) | ((with_reducible apply ev_name) <;> exact rfl) | (with_reducible first | apply ev_glob | apply ev_meth' PySem.F.slot_str_startswith PySem.F.type_str_startswith | apply ev_meth' PySem.F.slot_str_endswith PySem.F.type_str_endswith | apply ev_meth' PySem.F.slot_str_find PySem.F.type_str_find | apply ev_cmp | apply ev_un | apply ev_sub | apply ev_tup' | apply ev_call' | apply evs_cons' | apply op_len_str | apply op_len_list | apply op_find_L | apply op_notin_L | apply tr_str | apply test_cmp | apply ex_assign | apply ex_aug) | ((with_reducible apply test_attr'); (intro _ _; rfl)) | ((with_reducible first | apply item_list); (· first | assumption | rfl)) | with_reducible exact nlo _ | with_reducible exact nhi h7 (by assumption) | ((first | with_reducible show (_ ≤ _) | with_reducible show (_ < _)); first | decide | lia) | apply test_cmp | exact rfl | exact fun _ => rfl | exact fun _ _ => rfl | exact fun _ _ => .str _ _ | decide | lia | (simp only [List.length_cons, List.length_nil, List.length_append, List.length_map, List.length_replicate]; lia) | (simp_all; done))) (by exact q2) (ret_ret (by (repeat' first | (with_reducible first | exact ev_int | exact ev_bool | assumption | exact evs_nil | exact op_neg_int _ | exact op_iadd_int _ _ | exact op_isub_int _ _ | exact op_lt_int _ _ | exact op_gt_int _ _ | exact op_ge_int _ _ | exact op_eq_str _ _ | exact tr_bool _ | exact op_startswith_L _ _ | exact op_endswith_L _ _ | exact callee_builtin _) | ((with_reducible apply ev_name) <;> exact rfl) | (with_reducible first | apply ev_glob | apply ev_meth' PySem.F.slot_str_startswith PySem.F.type_str_startswith | apply ev_meth' PySem.F.slot_str_endswith PySem.F.type_str_endswith | apply ev_meth' PySem.F.slot_str_find PySem.F.type_str_find | apply ev_cmp | apply ev_un | apply ev_sub | apply ev_tup' | apply ev_call' | apply evs_cons' | apply op_len_str | apply op_len_list | apply op_find_L | apply op_notin_L | apply tr_str | apply test_cmp | apply ex_assign | apply ex_aug) | ((with_reducible apply test_attr'); (intro _ _; rfl)) | ((with_reducible first | apply item_list); (· first | assumption | rfl)) | with_reducible exact nlo _ | with_reducible exact nhi h7 (by assumption) | ((first | with_reducible show (_ ≤ _) | with_reducible show (_ < _)); first | decide | lia) | apply test_cmp | exact rfl | exact fun _ => rfl | exact fun _ _ => rfl | exact fun _ _ => .str _ _ | decide | lia | (simp only [List.length_cons, List.length_nil, List.length_append, List.length_map, List.length_replicate]; lia) | (simp_all; done)))))

theorem op_ell {a : Addr} (fn : FnAt c a ["want", "got"] (fBody sEll) (fScope sEll)) (glen : GlobV c "len" (.builtin "len")) {t : Tok} (gmk : GlobV c "ELLIPSIS_MARKER" (.str (txt MK) t)) (want got : List Nat) (hg : got.length < 1000000) (hwl : want.length < 500000) :
    Op c 1 (fun vs => call (.ref a) vs) [.str want, .str got] (.bool (ellF want got)) := by
  refine fn_ret fn (by rfl) (by rfl) ?_
  unfold ellF
  have emk : (txt MK).cps.toList = MK := rfl
  cases q : (occS MK want 0 0).isEmpty with
  | true =>
    rw [if_pos rfl]
    exact ret_if_t (by (repeat' first | (with_reducible first | exact ev_int | exact ev_bool | assumption | exact evs_nil | exact op_neg_int _ | exact op_iadd_int _ _ | exact op_isub_int _ _ | exact op_lt_int _ _ | exact op_gt_int _ _ | exact op_ge_int _ _ | exact op_eq_str _ _ | exact tr_bool _ | exact op_startswith_L _ _ | exact op_endswith_L _ _ | exact callee_builtin _) | ((with_reducible apply ev_name) <;> exact rfl) | (with_reducible first | apply ev_glob | apply ev_meth' PySem.F.slot_str_startswith PySem.F.type_str_startswith | apply ev_meth' PySem.F.slot_str_endswith PySem.F.type_str_endswith | apply ev_meth' PySem.F.slot_str_find PySem.F.type_str_find | apply ev_cmp | apply ev_un | apply ev_sub | apply ev_tup' | apply ev_call' | apply evs_cons' | apply op_len_str | apply op_len_list | apply op_find_L | apply op_notin_L | apply tr_str | apply test_cmp | apply ex_assign | apply ex_aug) | ((with_reducible apply test_attr'); (intro _ _; rfl)) | ((with_reducible first | apply item_list); (· first | assumption | rfl)) | with_reducible exact nlo _ | with_reducible exact nhi h7 (by assumption) | ((first | with_reducible show (_ ≤ _) | with_reducible show (_ < _)); first | decide | lia) | apply test_cmp | exact rfl | exact fun _ => rfl | exact fun _ _ => rfl | exact fun _ _ => .str _ _ | decide | lia | (simp only [List.length_cons, List.length_nil, List.length_append, List.length_map, List.length_replicate]; lia) | (simp_all; done))) (by exact q) (ret_ret (by (repeat' first | (with_reducible first | exact ev_int | exact ev_bool | assumption | exact evs_nil | exact op_neg_int _ | exact op_iadd_int _ _ | exact op_isub_int _ _ | exact op_lt_int _ _ | exact op_gt_int _ _ | exact op_ge_int _ _ | exact op_eq_str _ _ | exact tr_bool _ | exact op_startswith_L _ _ | exact op_endswith_L _ _ | exact callee_builtin _) | ((with_reducible apply ev_name) <;> exact rfl) | (with_reducible first | apply ev_glob | apply ev_meth' PySem.F.slot_str_startswith PySem.F.type_str_startswith | apply ev_meth' PySem.F.slot_str_endswith PySem.F.type_str_endswith | apply ev_meth' PySem.F.slot_str_find PySem.F.type_str_find | apply ev_cmp | apply ev_un | apply ev_sub | apply ev_tup' | apply ev_call' | apply evs_cons' | apply op_len_str | apply op_len_list | apply op_find_L | apply op_notin_L | apply tr_str | apply test_cmp | apply ex_assign | apply ex_aug) | ((with_reducible apply test_attr'); (intro _ _; rfl)) | ((with_reducible first | apply item_list); (· first | assumption | rfl)) | with_reducible exact nlo _ | with_reducible exact nhi h7 (by assumption) | ((first | with_reducible show (_ ≤ _) | with_reducible show (_ < _)); first | decide | lia) | apply test_cmp | exact rfl | exact fun _ => rfl | exact fun _ _ => rfl | exact fun _ _ => .str _ _ | decide | lia | (simp only [List.length_cons, List.length_nil, List.length_append, List.length_map, List.length_replicate]; lia) | (simp_all; done))))
  | false =>
    rw [if_neg (by decide)]
    refine ret_skip (by (repeat' first | (with_reducible first | exact ev_int | exact ev_bool | assumption | exact evs_nil | exact op_neg_int _ | exact op_iadd_int _ _ | exact op_isub_int _ _ | exact op_lt_int _ _ | exact op_gt_int _ _ | exact op_ge_int _ _ | exact op_eq_str _ _ | exact tr_bool _ | exact op_startswith_L _ _ | exact op_endswith_L _ _ | exact callee_builtin _) | ((with_reducible apply ev_name) <;> exact rfl) | (with_reducible first | apply ev_glob | apply ev_meth' PySem.F.slot_str_startswith PySem.F.type_str_startswith | apply ev_meth' PySem.F.slot_str_endswith PySem.F.type_str_endswith | apply ev_meth' PySem.F.slot_str_find PySem.F.type_str_find | apply ev_cmp | apply ev_un | apply ev_sub | apply ev_tup' | apply ev_call' | apply evs_cons' | apply op_len_str | apply op_len_list | apply op_find_L | apply op_notin_L | apply tr_str | apply test_cmp | apply ex_assign | apply ex_aug) | ((with_reducible apply test_attr'); (intro _ _; rfl)) | ((with_reducible first | apply item_list); (· first | assumption | rfl)) | with_reducible exact nlo _ | with_reducible exact nhi h7 (by assumption) | ((first | with_reducible show (_ ≤ _) | with_reducible show (_ < _)); first | decide | lia) | apply test_cmp | exact rfl | exact fun _ => rfl | exact fun _ _ => rfl | exact fun _ _ => .str _ _ | decide | lia | (simp only [List.length_cons, List.length_nil, List.length_append, List.length_map, List.length_replicate]; lia) | (simp_all; done))) (by exact q) ?_
    have hlen := splitS_len MK want [] 0 0
    have hocc := occS_len MK want 0 0
    have hsz : ∀ w ∈ splitS MK want [] 0, w.length < 1000000 := fun w hw => by have := splitS_size MK want [] 0 w hw; simp at this; lia
    have h2 : 2 ≤ (splitS MK want [] 0).length := by
      rw [hlen]
      have : (occS MK want 0 0).length ≠ 0 := fun h => by rw [List.length_eq_zero_iff] at h; rw [h] at q; cases q
      lia
    refine ret_cons (ex_own (l := strL (splitS MK want [] 0)) (new_meth (ps := [.str MK]) PySem.F.slot_str_split PySem.F.type_str_split (by (repeat' first | (with_reducible first | exact ev_int | exact ev_bool | assumption | exact evs_nil | exact op_neg_int _ | exact op_iadd_int _ _ | exact op_isub_int _ _ | exact op_lt_int _ _ | exact op_gt_int _ _ | exact op_ge_int _ _ | exact op_eq_str _ _ | exact tr_bool _ | exact op_startswith_L _ _ | exact op_endswith_L _ _ | exact callee_builtin _) | ((with_reducible apply ev_name) <;> exact rfl) | (with_reducible first | apply ev_glob | apply ev_meth' PySem.F.slot_str_startswith PySem.F.type_str_startswith | apply ev_meth' PySem.F.slot_str_endswith PySem.F.type_str_endswith | apply ev_meth' PySem.F.slot_str_find PySem.F.type_str_find | apply ev_cmp | apply ev_un | apply ev_sub | apply ev_tup' | apply ev_call' | apply evs_cons' | apply op_len_str | apply op_len_list | apply op_find_L | apply op_notin_L | apply tr_str | apply test_cmp | apply ex_assign | apply ex_aug) | ((with_reducible apply test_attr'); (intro _ _; rfl)) | ((with_reducible first | apply item_list); (· first | assumption | rfl)) | with_reducible exact nlo _ | with_reducible exact nhi h7 (by assumption) | ((first | with_reducible show (_ ≤ _) | with_reducible show (_ < _)); first | decide | lia) | apply test_cmp | exact rfl | exact fun _ => rfl | exact fun _ _ => rfl | exact fun _ _ => .str _ _ | decide | lia | (simp only [List.length_cons, List.length_nil, List.length_append, List.length_map, List.length_replicate]; lia) | (simp_all; done))) (by (repeat' first | (with_reducible first | exact ev_int | exact ev_bool | assumption | exact evs_nil | exact op_neg_int _ | exact op_iadd_int _ _ | exact op_isub_int _ _ | exact op_lt_int _ _ | exact op_gt_int _ _ | exact op_ge_int _ _ | exact op_eq_str _ _ | exact tr_bool _ | exact op_startswith_L _ _ | exact op_endswith_L _ _ | exact callee_builtin _) | ((with_reducible apply ev_name) <;> exact rfl) | (with_reducible first | apply ev_glob | apply ev_meth' PySem.F.slot_str_startswith PySem.F.type_str_startswith | apply ev_meth' PySem.F.slot_str_endswith PySem.F.type_str_endswith | apply ev_meth' PySem.F.slot_str_find PySem.F.type_str_find | apply ev_cmp | apply ev_un | apply ev_sub | apply ev_tup' | apply ev_call' | apply evs_cons' | apply op_len_str | apply op_len_list | apply op_find_L | apply op_notin_L | apply tr_str | apply test_cmp | apply ex_assign | apply ex_aug) | ((with_reducible apply test_attr'); (intro _ _; rfl)) | ((with_reducible first | apply item_list); (· first | assumption | rfl)) | with_reducible exact nlo _ | with_reducible exact nhi h7 (by assumption) | ((first | with_reducible show (_ ≤ _) | with_reducible show (_ < _)); first | decide | lia) | apply test_cmp | exact rfl | exact fun _ => rfl | exact fun _ _ => rfl | exact fun _ _ => .str _ _ | decide | lia | (simp only [List.length_cons, List.length_nil, List.length_append, List.length_map, List.length_replicate]; lia) | (simp_all; done))) (op_split_L want MK (by decide) (by decide) (by lia)) (by intro _; rfl) (by rfl) (by rfl) (by decide)) (by rfl) (by intro _ _; rfl)) ?_
    generalize splitS MK want [] 0 = ws at hlen hsz h2 ⊢
    have e1 : (strL ws).length = ws.length := by simp [strL]
    refine ret_cons (ex_assert (test_own (x := "ws") (l := strL ws) rfl (test_eq (by (repeat' first | (with_reducible first | exact ev_int | exact ev_bool | assumption | exact evs_nil | exact op_neg_int _ | exact op_iadd_int _ _ | exact op_isub_int _ _ | exact op_lt_int _ _ | exact op_gt_int _ _ | exact op_ge_int _ _ | exact op_eq_str _ _ | exact tr_bool _ | exact op_startswith_L _ _ | exact op_endswith_L _ _ | exact callee_builtin _) | ((with_reducible apply ev_name) <;> exact rfl) | (with_reducible first | apply ev_glob | apply ev_meth' PySem.F.slot_str_startswith PySem.F.type_str_startswith | apply ev_meth' PySem.F.slot_str_endswith PySem.F.type_str_endswith | apply ev_meth' PySem.F.slot_str_find PySem.F.type_str_find | apply ev_cmp | apply ev_un | apply ev_sub | apply ev_tup' | apply ev_call' | apply evs_cons' | apply op_len_str | apply op_len_list | apply op_find_L | apply op_notin_L | apply tr_str | apply test_cmp | apply ex_assign | apply ex_aug) | ((with_reducible apply test_attr'); (intro _ _; rfl)) | ((with_reducible first | apply item_list); (· first | assumption | rfl)) | with_reducible exact nlo _ | with_reducible exact nhi h7 (by assumption) | ((first | with_reducible show (_ ≤ _) | with_reducible show (_ < _)); first | decide | lia) | apply test_cmp | exact rfl | exact fun _ => rfl | exact fun _ _ => rfl | exact fun _ _ => .str _ _ | decide | lia | (simp only [List.length_cons, List.length_nil, List.length_append, List.length_map, List.length_replicate]; lia) | (simp_all; done))) (by rw [e1]; exact decide_eq_true (by lia))))) ?_
    have hgl : (got.length : Int) < 2 ^ 63 := by lia
    refine ret_cons (ex_assign_swapped (names := ["startpos", "endpos"]) (ps := [.int 0, .int got.length]) (by (repeat' first | (with_reducible first | exact ev_int | exact ev_bool | assumption | exact evs_nil | exact op_neg_int _ | exact op_iadd_int _ _ | exact op_isub_int _ _ | exact op_lt_int _ _ | exact op_gt_int _ _ | exact op_ge_int _ _ | exact op_eq_str _ _ | exact tr_bool _ | exact op_startswith_L _ _ | exact op_endswith_L _ _ | exact callee_builtin _) | ((with_reducible apply ev_name) <;> exact rfl) | (with_reducible first | apply ev_glob | apply ev_meth' PySem.F.slot_str_startswith PySem.F.type_str_startswith | apply ev_meth' PySem.F.slot_str_endswith PySem.F.type_str_endswith | apply ev_meth' PySem.F.slot_str_find PySem.F.type_str_find | apply ev_cmp | apply ev_un | apply ev_sub | apply ev_tup' | apply ev_call' | apply evs_cons' | apply op_len_str | apply op_len_list | apply op_find_L | apply op_notin_L | apply tr_str | apply test_cmp | apply ex_assign | apply ex_aug) | ((with_reducible apply test_attr'); (intro _ _; rfl)) | ((with_reducible first | apply item_list); (· first | assumption | rfl)) | with_reducible exact nlo _ | with_reducible exact nhi h7 (by assumption) | ((first | with_reducible show (_ ≤ _) | with_reducible show (_ < _)); first | decide | lia) | apply test_cmp | exact rfl | exact fun _ => rfl | exact fun _ _ => rfl | exact fun _ _ => .str _ _ | decide | lia | (simp only [List.length_cons, List.length_nil, List.length_append, List.length_map, List.length_replicate]; lia) | (simp_all; done))) rfl (by rfl) (by intro _ _; rfl) (by intro env he; cases env; cases he; rfl)) ?_
    cases ws with
    | nil => simp at h2
    | cons w ws =>
      have hw0 := hsz w List.mem_cons_self
      have hit0 : itemAt (strL (w :: ws)) 0 = some (.str w) := itemAt_pos (by decide) rfl
      refine ret_cons (ρ₁ := rhoEll want got (.own (strL (w :: ws))) 0 got.length w) (ex_assign (ev_own (x := "ws") (l := strL (w :: ws)) rfl (by (repeat' first | (with_reducible first | exact ev_int | exact ev_bool | assumption | exact evs_nil | exact op_neg_int _ | exact op_iadd_int _ _ | exact op_isub_int _ _ | exact op_lt_int _ _ | exact op_gt_int _ _ | exact op_ge_int _ _ | exact op_eq_str _ _ | exact tr_bool _ | exact op_startswith_L _ _ | exact op_endswith_L _ _ | exact callee_builtin _) | ((with_reducible apply ev_name) <;> exact rfl) | (with_reducible first | apply ev_glob | apply ev_meth' PySem.F.slot_str_startswith PySem.F.type_str_startswith | apply ev_meth' PySem.F.slot_str_endswith PySem.F.type_str_endswith | apply ev_meth' PySem.F.slot_str_find PySem.F.type_str_find | apply ev_cmp | apply ev_un | apply ev_sub | apply ev_tup' | apply ev_call' | apply evs_cons' | apply op_len_str | apply op_len_list | apply op_find_L | apply op_notin_L | apply tr_str | apply test_cmp | apply ex_assign | apply ex_aug) | ((with_reducible apply test_attr'); (intro _ _; rfl)) | ((with_reducible first | apply item_list); (· first | assumption | rfl)) | with_reducible exact nlo _ | with_reducible exact nhi h7 (by assumption) | ((first | with_reducible show (_ ≤ _) | with_reducible show (_ < _)); first | decide | lia) | apply test_cmp | exact rfl | exact fun _ => rfl | exact fun _ _ => rfl | exact fun _ _ => .str _ _ | decide | lia | (simp only [List.length_cons, List.length_nil, List.length_append, List.length_map, List.length_replicate]; lia) | (simp_all; done))) rfl) (by rfl) (by intro _ _; rfl)) ?_
      rw [ell0]
      cases q : w.isEmpty with
      | true =>
        rw [if_pos rfl]
        exact ret_skip (by (repeat' first | (with_reducible first | exact ev_int | exact ev_bool | assumption | exact evs_nil | exact op_neg_int _ | exact op_iadd_int _ _ | exact op_isub_int _ _ | exact op_lt_int _ _ | exact op_gt_int _ _ | exact op_ge_int _ _ | exact op_eq_str _ _ | exact tr_bool _ | exact op_startswith_L _ _ | exact op_endswith_L _ _ | exact callee_builtin _) | ((with_reducible apply ev_name) <;> exact rfl) | (with_reducible first | apply ev_glob | apply ev_meth' PySem.F.slot_str_startswith PySem.F.type_str_startswith | apply ev_meth' PySem.F.slot_str_endswith PySem.F.type_str_endswith | apply ev_meth' PySem.F.slot_str_find PySem.F.type_str_find | apply ev_cmp | apply ev_un | apply ev_sub | apply ev_tup' | apply ev_call' | apply evs_cons' | apply op_len_str | apply op_len_list | apply op_find_L | apply op_notin_L | apply tr_str | apply test_cmp | apply ex_assign | apply ex_aug) | ((with_reducible apply test_attr'); (intro _ _; rfl)) | ((with_reducible first | apply item_list); (· first | assumption | rfl)) | with_reducible exact nlo _ | with_reducible exact nhi h7 (by assumption) | ((first | with_reducible show (_ ≤ _) | with_reducible show (_ < _)); first | decide | lia) | apply test_cmp | exact rfl | exact fun _ => rfl | exact fun _ _ => rfl | exact fun _ _ => .str _ _ | decide | lia | (simp only [List.length_cons, List.length_nil, List.length_append, List.length_map, List.length_replicate]; lia) | (simp_all; done))) (by rw [q]; rfl) (ell_mid glen want got w (w :: ws) 0 hg hsz (by simp) (by lia))
      | false =>
        rw [if_neg (by decide)]
        cases q2 : w.isPrefixOf got with
        | true =>
          rw [if_pos rfl]
          refine ret_cons (ρ₁ := rhoEll want got (.own (strL ws)) w.length got.length w) (ex_if_t (by (repeat' first | (with_reducible first | exact ev_int | exact ev_bool | assumption | exact evs_nil | exact op_neg_int _ | exact op_iadd_int _ _ | exact op_isub_int _ _ | exact op_lt_int _ _ | exact op_gt_int _ _ | exact op_ge_int _ _ | exact op_eq_str _ _ | exact tr_bool _ | exact op_startswith_L _ _ | exact op_endswith_L _ _ | exact callee_builtin _) | ((with_reducible apply ev_name) <;> exact rfl) | (with_reducible first | apply ev_glob | apply ev_meth' PySem.F.slot_str_startswith PySem.F.type_str_startswith | apply ev_meth' PySem.F.slot_str_endswith PySem.F.type_str_endswith | apply ev_meth' PySem.F.slot_str_find PySem.F.type_str_find | apply ev_cmp | apply ev_un | apply ev_sub | apply ev_tup' | apply ev_call' | apply evs_cons' | apply op_len_str | apply op_len_list | apply op_find_L | apply op_notin_L | apply tr_str | apply test_cmp | apply ex_assign | apply ex_aug) | ((with_reducible apply test_attr'); (intro _ _; rfl)) | ((with_reducible first | apply item_list); (· first | assumption | rfl)) | with_reducible exact nlo _ | with_reducible exact nhi h7 (by assumption) | ((first | with_reducible show (_ ≤ _) | with_reducible show (_ < _)); first | decide | lia) | apply test_cmp | exact rfl | exact fun _ => rfl | exact fun _ _ => rfl | exact fun _ _ => .str _ _ | decide | lia | (simp only [List.length_cons, List.length_nil, List.length_append, List.length_map, List.length_replicate]; lia) | (simp_all; done))) (by rw [q]; rfl) (exec_one (ex_if_t (by (repeat' first | (with_reducible first | exact ev_int | exact ev_bool | assumption | exact evs_nil | exact op_neg_int _ | exact op_iadd_int _ _ | exact op_isub_int _ _ | exact op_lt_int _ _ | exact op_gt_int _ _ | exact op_ge_int _ _ | exact op_eq_str _ _ | exact tr_bool _ | exact op_startswith_L _ _ | exact op_endswith_L _ _ | exact callee_builtin _) | ((with_reducible apply ev_name) <;> exact rfl) | (with_reducible first | apply ev_glob | apply ev_meth' PySem.F.slot_str_startswith PySem.F.type_str_startswith | apply ev_meth' PySem.F.slot_str_endswith PySem.F.type_str_endswith | apply ev_meth' PySem.F.slot_str_find PySem.F.type_str_find | apply ev_cmp | apply ev_un | apply ev_sub | apply ev_tup' | apply ev_call' | apply evs_cons' | apply op_len_str | apply op_len_list | apply op_find_L | apply op_notin_L | apply tr_str | apply test_cmp | apply ex_assign | apply ex_aug) | ((with_reducible apply test_attr'); (intro _ _; rfl)) | ((with_reducible first | apply item_list); (· first | assumption | rfl)) | with_reducible exact nlo _ | with_reducible exact nhi h7 (by assumption) | ((first | with_reducible show (_ ≤ _) | with_reducible show (_ < _)); first | decide | lia) | apply test_cmp | exact rfl | exact fun _ => rfl | exact fun _ _ => rfl | exact fun _ _ => .str _ _ | decide | lia | (simp only [List.length_cons, List.length_nil, List.length_append, List.length_map, List.length_replicate]; lia) | (simp_all; done))) (by exact q2) (exec_cons (by (repeat' first | (with_reducible first | exact ev_int | exact ev_bool | assumption | exact evs_nil | exact op_neg_int _ | exact op_iadd_int _ _ | exact op_isub_int _ _ | exact op_lt_int _ _ | exact op_gt_int _ _ | exact op_ge_int _ _ | exact op_eq_str _ _ | exact tr_bool _ | exact op_startswith_L _ _ | exact op_endswith_L _ _ | exact callee_builtin _) | ((with_reducible apply ev_name) <;> exact rfl) | (with_reducible first | apply ev_glob | apply ev_meth' PySem.F.slot_str_startswith PySem.F.type_str_startswith | apply ev_meth' PySem.F.slot_str_endswith PySem.F.type_str_endswith | apply ev_meth' PySem.F.slot_str_find PySem.F.type_str_find | apply ev_cmp | apply ev_un | apply ev_sub | apply ev_tup' | apply ev_call' | apply evs_cons' | apply op_len_str | apply op_len_list | apply op_find_L | apply op_notin_L | apply tr_str | apply test_cmp | apply ex_assign | apply ex_aug) | ((with_reducible apply test_attr'); (intro _ _; rfl)) | ((with_reducible first | apply item_list); (· first | assumption | rfl)) | with_reducible exact nlo _ | with_reducible exact nhi h7 (by assumption) | ((first | with_reducible show (_ ≤ _) | with_reducible show (_ < _)); first | decide | lia) | apply test_cmp | exact rfl | exact fun _ => rfl | exact fun _ _ => rfl | exact fun _ _ => .str _ _ | decide | lia | (simp only [List.length_cons, List.length_nil, List.length_append, List.length_map, List.length_replicate]; lia) | (simp_all; done))) (exec_one ?_))))) ?_
          · exact ex_del (l := strL (w :: ws)) (k := 0) (j := 0) rfl (by (repeat' first | (with_reducible first | exact ev_int | exact ev_bool | assumption | exact evs_nil | exact op_neg_int _ | exact op_iadd_int _ _ | exact op_isub_int _ _ | exact op_lt_int _ _ | exact op_gt_int _ _ | exact op_ge_int _ _ | exact op_eq_str _ _ | exact tr_bool _ | exact op_startswith_L _ _ | exact op_endswith_L _ _ | exact callee_builtin _) | ((with_reducible apply ev_name) <;> exact rfl) | (with_reducible first | apply ev_glob | apply ev_meth' PySem.F.slot_str_startswith PySem.F.type_str_startswith | apply ev_meth' PySem.F.slot_str_endswith PySem.F.type_str_endswith | apply ev_meth' PySem.F.slot_str_find PySem.F.type_str_find | apply ev_cmp | apply ev_un | apply ev_sub | apply ev_tup' | apply ev_call' | apply evs_cons' | apply op_len_str | apply op_len_list | apply op_find_L | apply op_notin_L | apply tr_str | apply test_cmp | apply ex_assign | apply ex_aug) | ((with_reducible apply test_attr'); (intro _ _; rfl)) | ((with_reducible first | apply item_list); (· first | assumption | rfl)) | with_reducible exact nlo _ | with_reducible exact nhi h7 (by assumption) | ((first | with_reducible show (_ ≤ _) | with_reducible show (_ < _)); first | decide | lia) | apply test_cmp | exact rfl | exact fun _ => rfl | exact fun _ _ => rfl | exact fun _ _ => .str _ _ | decide | lia | (simp only [List.length_cons, List.length_nil, List.length_append, List.length_map, List.length_replicate]; lia) | (simp_all; done))) (by rfl) (by rw [e1]; lia) (by rw [e1]; unfold seqIndex?; simp) (by decide) (by decide)
          · exact ell_mid glen want got w ws w.length hg (fun u hu => hsz u (List.mem_cons_of_mem _ hu)) (fun h => by subst h; simp at h2) (by simp at hlen; lia)
        | false =>
          rw [if_neg (by decide)]
          exact ret_if_t (by (repeat' first | (with_reducible first | exact ev_int | exact ev_bool | assumption | exact evs_nil | exact op_neg_int _ | exact op_iadd_int _ _ | exact op_isub_int _ _ | exact op_lt_int _ _ | exact op_gt_int _ _ | exact op_ge_int _ _ | exact op_eq_str _ _ | exact tr_bool _ | exact op_startswith_L _ _ | exact op_endswith_L _ _ | exact callee_builtin _) | ((with_reducible apply ev_name) <;> exact rfl) | (with_reducible first | apply ev_glob | apply ev_meth' PySem.F.slot_str_startswith PySem.F.type_str_startswith | apply ev_meth' PySem.F.slot_str_endswith PySem.F.type_str_endswith | apply ev_meth' PySem.F.slot_str_find PySem.F.type_str_find | apply ev_cmp | apply ev_un | apply ev_sub | apply ev_tup' | apply ev_call' | apply evs_cons' | apply op_len_str | apply op_len_list | apply op_find_L | apply op_notin_L | apply tr_str | apply test_cmp | apply ex_assign | apply ex_aug) | ((with_reducible apply test_attr'); (intro _ _; rfl)) | ((with_reducible first | apply item_list); (· first | assumption | rfl)) | with_reducible exact nlo _ | with_reducible exact nhi h7 (by assumption) | ((first | with_reducible show (_ ≤ _) | with_reducible show (_ < _)); first | decide | lia) | apply test_cmp | exact rfl | exact fun _ => rfl | exact fun _ _ => rfl | exact fun _ _ => .str _ _ | decide | lia | (simp only [List.length_cons, List.length_nil, List.length_append, List.length_map, List.length_replicate]; lia) | (simp_all; done))) (by rw [q]; rfl) (ret_if_f (by (repeat' first | (with_reducible first | exact ev_int | exact ev_bool | assumption | exact evs_nil | exact op_neg_int _ | exact op_iadd_int _ _ | exact op_isub_int _ _ | exact op_lt_int _ _ | exact op_gt_int _ _ | exact op_ge_int _ _ | exact op_eq_str _ _ | exact tr_bool _ | exact op_startswith_L _ _ | exact op_endswith_L _ _ | exact callee_builtin _) | ((with_reducible apply ev_name) <;> exact rfl) | (with_reducible first | apply ev_glob | apply ev_meth' PySem.F.slot_str_startswith PySem.F.type_str_startswith | apply ev_meth' PySem.F.slot_str_endswith PySem.F.type_str_endswith | apply ev_meth' PySem.F.slot_str_find PySem.F.type_str_find | apply ev_cmp | apply ev_un | apply ev_sub | apply ev_tup' | apply ev_call' | apply evs_cons' | apply op_len_str | apply op_len_list | apply op_find_L | apply op_notin_L | apply tr_str | apply test_cmp | apply ex_assign | apply ex_aug) | ((with_reducible apply test_attr'); (intro _ _; rfl)) | ((with_reducible first | apply item_list); (· first | assumption | rfl)) | with_reducible exact nlo _ | with_reducible exact nhi h7 (by assumption) | ((first | with_reducible show (_ ≤ _) | with_reducible show (_ < _)); first | decide | lia) | apply test_cmp | exact rfl | exact fun _ => rfl | exact fun _ _ => rfl | exact fun _ _ => .str _ _ | decide | lia | (simp only [List.length_cons, List.length_nil, List.length_append, List.length_map, List.length_replicate]; lia) | (simp_all; done))) (by exact q2) (ret_ret (by (repeat' first | (with_reducible first | exact ev_int | exact ev_bool | assumption | exact evs_nil | exact op_neg_int _ | exact op_iadd_int _ _ | exact op_isub_int _ _ | exact op_lt_int _ _ | exact op_gt_int _ _ | exact op_ge_int _ _ | exact op_eq_str _ _ | exact tr_bool _ | exact op_startswith_L _ _ | exact op_endswith_L _ _ | exact callee_builtin _) | ((with_reducible apply ev_name) <;> exact rfl) | (with_reducible first | apply ev_glob | apply ev_meth' PySem.F.slot_str_startswith PySem.F.type_str_startswith | apply ev_meth' PySem.F.slot_str_endswith PySem.F.type_str_endswith | apply ev_meth' PySem.F.slot_str_find PySem.F.type_str_find | apply ev_cmp | apply ev_un | apply ev_sub | apply ev_tup' | apply ev_call' | apply evs_cons' | apply op_len_str | apply op_len_list | apply op_find_L | apply op_notin_L | apply tr_str | apply test_cmp | apply ex_assign | apply ex_aug) | ((with_reducible apply test_attr'); (intro _ _; rfl)) | ((with_reducible first | apply item_list); (· first | assumption | rfl)) | with_reducible exact nlo _ | with_reducible exact nhi h7 (by assumption) | ((first | with_reducible show (_ ≤ _) | with_reducible show (_ < _)); first | decide | lia) | apply test_cmp | exact rfl | exact fun _ => rfl | exact fun _ _ => rfl | exact fun _ _ => .str _ _ | decide | lia | (simp only [List.length_cons, List.length_nil, List.length_append, List.length_map, List.length_replicate]; lia) | (simp_all; done)))))
end
end Mine
open PySem PySem.W PyProof.Rows
open PySem.Builtin PySem.Builtin.Str
set_option Elab.async false
set_option maxRecDepth 100000
set_option linter.unusedVariables false
set_option autoImplicit false
set_option maxHeartbeats 1000000
namespace Mine
section
variable {c : Cx} {d : Nat}

/- what the loop over the signs keeps -/
structure SSt where
  start : Nat
  op : Option Nat
  res : List (List Nat)
noncomputable def sStep (addr : List Nat) (s : SSt) (pos ch : Nat) : SSt :=
  if ch = 34 then match s.op with
    | none => { s with op := some pos }
    | some o => ⟨pos + 1, none, if s.start = o then s.res else s.res ++ [(addr.take o).drop s.start]⟩
  else s
noncomputable def sRun (addr : List Nat) : List Nat → Nat → SSt → SSt
  | [], _, s => s
  | ch :: r, pos, s => sRun addr r (pos + 1) (sStep addr s pos ch)
noncomputable def stripEnd (addr : List Nat) (s : SSt) : List (List Nat) := if s.start < addr.length then s.res ++ [addr.drop s.start] else s.res
noncomputable def stripF (addr : List Nat) : List Nat := if 34 ∈ addr then glueL [] (stripEnd addr (sRun addr addr 0 ⟨0, none, []⟩)) else addr

noncomputable def opPV : Option Nat → PV
  | none => .none
  | some o => .int o
noncomputable abbrev rhoS (addr : List Nat) (start : Nat) (op : PV) (res : List (List Nat)) : Rho := [("addr", .val (.str addr)), ("start", .val (.int start)), ("open_pos", .val op), ("result", .own (strL res))]
noncomputable abbrev bStrip : Blk := fBlk sStrip
noncomputable abbrev fStrip : Stmt := nth (fBody sStrip) 4

theorem strL_append (a b : List (List Nat)) : strL (a ++ b) = strL a ++ strL b := by simp [strL]

theorem occ_one (a : Nat) : ∀ (l : List Nat) (i : Nat), (occS [a] l i 0).isEmpty = !l.contains a
  | [], _ => rfl
  | x :: r, i => by
    rw [occS]
    by_cases h : x = a
    · subst h; simp [List.isPrefixOf]
    · have : ([a] : List Nat).isPrefixOf (x :: r) = false := by simp [List.isPrefixOf]; exact fun q => h q.symm
      rw [this]
      simp only [Bool.false_eq_true, if_false, List.contains_cons]
      rw [occ_one a r (i + 1), beq_eq_false_iff_ne.mpr (Ne.symm h), Bool.false_or]

theorem strip_body (addr : List Nat) (s : SSt) (pos ch : Nat) (hl : addr.length < 1000000) (hs : s.start ≤ addr.length) (hr : s.res.length < 1000000) (hp : pos < 1000000) :
    Exec c bStrip d (wBody fStrip) (rset (rset (rhoS addr s.start (opPV s.op) s.res) "pos" (.val (.int pos))) "ch" (.val (.str [ch]))) .next (rhoS addr (sStep addr s pos ch).start (opPV (sStep addr s pos ch).op) (sStep addr s pos ch).res) := by
  obtain ⟨start, op, res⟩ := s
  simp only at hs hr
  unfold sStep
  by_cases hc : ch = 34
  · simp only [hc, if_true]
    have hq : ([34] == (Str.ofString "\"").cps.toList) = true := rfl
    cases op with
    | none =>
      simp only [opPV]
      refine exec_post (exec_one (ex_if_t (by (repeat' first | (with_reducible first | exact ev_int | exact ev_str | exact ev_none | assumption | exact evs_nil | exact part_none | exact op_add_int _ _ | exact op_ne_int _ _ | exact op_lt_int _ _ | exact op_eq_str _ _ | exact callee_builtin _) | ((with_reducible apply ev_name) <;> exact rfl) | (with_reducible first | apply ev_meth' PySem.F.slot_str_join PySem.F.type_str_join | apply ev_bin | apply ev_cut' | apply ev_call' | apply evs_cons' | apply part_some | apply op_len_str | apply op_join | apply op_notin_L | apply cut_str_nn | apply cut_str_n_ | apply test_cmp | apply ex_assign | apply op_is) | exact .bb _ _ | exact .nn | exact .inn _ | exact .sn _ | exact .bn _ | with_reducible exact nlo _ | with_reducible exact nhi h7 (by assumption) | ((first | with_reducible show (_ ≤ _) | with_reducible show (_ < _)); first | decide | lia) | apply test_cmp | exact rfl | exact fun _ => rfl | exact fun _ _ => rfl | decide | lia | (simp only [List.length_cons, List.length_nil, List.length_append, List.length_map, List.length_replicate]; lia) | (simp_all; done))) hq (exec_one (ex_if_t (by (repeat' first | (with_reducible first | exact ev_int | exact ev_str | exact ev_none | assumption | exact evs_nil | exact part_none | exact op_add_int _ _ | exact op_ne_int _ _ | exact op_lt_int _ _ | exact op_eq_str _ _ | exact callee_builtin _) | ((with_reducible apply ev_name) <;> exact rfl) | (with_reducible first | apply ev_meth' PySem.F.slot_str_join PySem.F.type_str_join | apply ev_bin | apply ev_cut' | apply ev_call' | apply evs_cons' | apply part_some | apply op_len_str | apply op_join | apply op_notin_L | apply cut_str_nn | apply cut_str_n_ | apply test_cmp | apply ex_assign | apply op_is) | exact .bb _ _ | exact .nn | exact .inn _ | exact .sn _ | exact .bn _ | with_reducible exact nlo _ | with_reducible exact nhi h7 (by assumption) | ((first | with_reducible show (_ ≤ _) | with_reducible show (_ < _)); first | decide | lia) | apply test_cmp | exact rfl | exact fun _ => rfl | exact fun _ _ => rfl | decide | lia | (simp only [List.length_cons, List.length_nil, List.length_append, List.length_map, List.length_replicate]; lia) | (simp_all; done))) rfl (exec_one (by (repeat' first | (with_reducible first | exact ev_int | exact ev_str | exact ev_none | assumption | exact evs_nil | exact part_none | exact op_add_int _ _ | exact op_ne_int _ _ | exact op_lt_int _ _ | exact op_eq_str _ _ | exact callee_builtin _) | ((with_reducible apply ev_name) <;> exact rfl) | (with_reducible first | apply ev_meth' PySem.F.slot_str_join PySem.F.type_str_join | apply ev_bin | apply ev_cut' | apply ev_call' | apply evs_cons' | apply part_some | apply op_len_str | apply op_join | apply op_notin_L | apply cut_str_nn | apply cut_str_n_ | apply test_cmp | apply ex_assign | apply op_is) | exact .bb _ _ | exact .nn | exact .inn _ | exact .sn _ | exact .bn _ | with_reducible exact nlo _ | with_reducible exact nhi h7 (by assumption) | ((first | with_reducible show (_ ≤ _) | with_reducible show (_ < _)); first | decide | lia) | apply test_cmp | exact rfl | exact fun _ => rfl | exact fun _ _ => rfl | decide | lia | (simp only [List.length_cons, List.length_nil, List.length_append, List.length_map, List.length_replicate]; lia) | (simp_all; done)))))))) (by (repeat' first | exact Sub.nil _ | refine Sub.cons (by rfl) ?_))
    | some o =>
      simp only [opPV]
      by_cases he : start = o
      · simp only [he, if_true]
        refine exec_post (exec_one (ex_if_t (by (repeat' first | (with_reducible first | exact ev_int | exact ev_str | exact ev_none | assumption | exact evs_nil | exact part_none | exact op_add_int _ _ | exact op_ne_int _ _ | exact op_lt_int _ _ | exact op_eq_str _ _ | exact callee_builtin _) | ((with_reducible apply ev_name) <;> exact rfl) | (with_reducible first | apply ev_meth' PySem.F.slot_str_join PySem.F.type_str_join | apply ev_bin | apply ev_cut' | apply ev_call' | apply evs_cons' | apply part_some | apply op_len_str | apply op_join | apply op_notin_L | apply cut_str_nn | apply cut_str_n_ | apply test_cmp | apply ex_assign | apply op_is) | exact .bb _ _ | exact .nn | exact .inn _ | exact .sn _ | exact .bn _ | with_reducible exact nlo _ | with_reducible exact nhi h7 (by assumption) | ((first | with_reducible show (_ ≤ _) | with_reducible show (_ < _)); first | decide | lia) | apply test_cmp | exact rfl | exact fun _ => rfl | exact fun _ _ => rfl | decide | lia | (simp only [List.length_cons, List.length_nil, List.length_append, List.length_map, List.length_replicate]; lia) | (simp_all; done))) hq (exec_one (ex_if_f (by (repeat' first | (with_reducible first | exact ev_int | exact ev_str | exact ev_none | assumption | exact evs_nil | exact part_none | exact op_add_int _ _ | exact op_ne_int _ _ | exact op_lt_int _ _ | exact op_eq_str _ _ | exact callee_builtin _) | ((with_reducible apply ev_name) <;> exact rfl) | (with_reducible first | apply ev_meth' PySem.F.slot_str_join PySem.F.type_str_join | apply ev_bin | apply ev_cut' | apply ev_call' | apply evs_cons' | apply part_some | apply op_len_str | apply op_join | apply op_notin_L | apply cut_str_nn | apply cut_str_n_ | apply test_cmp | apply ex_assign | apply op_is) | exact .bb _ _ | exact .nn | exact .inn _ | exact .sn _ | exact .bn _ | with_reducible exact nlo _ | with_reducible exact nhi h7 (by assumption) | ((first | with_reducible show (_ ≤ _) | with_reducible show (_ < _)); first | decide | lia) | apply test_cmp | exact rfl | exact fun _ => rfl | exact fun _ _ => rfl | decide | lia | (simp only [List.length_cons, List.length_nil, List.length_append, List.length_map, List.length_replicate]; lia) | (simp_all; done))) rfl (exec_cons (ex_if_f (by (repeat' first | (with_reducible first | exact ev_int | exact ev_str | exact ev_none | assumption | exact evs_nil | exact part_none | exact op_add_int _ _ | exact op_ne_int _ _ | exact op_lt_int _ _ | exact op_eq_str _ _ | exact callee_builtin _) | ((with_reducible apply ev_name) <;> exact rfl) | (with_reducible first | apply ev_meth' PySem.F.slot_str_join PySem.F.type_str_join | apply ev_bin | apply ev_cut' | apply ev_call' | apply evs_cons' | apply part_some | apply op_len_str | apply op_join | apply op_notin_L | apply cut_str_nn | apply cut_str_n_ | apply test_cmp | apply ex_assign | apply op_is) | exact .bb _ _ | exact .nn | exact .inn _ | exact .sn _ | exact .bn _ | with_reducible exact nlo _ | with_reducible exact nhi h7 (by assumption) | ((first | with_reducible show (_ ≤ _) | with_reducible show (_ < _)); first | decide | lia) | apply test_cmp | exact rfl | exact fun _ => rfl | exact fun _ _ => rfl | decide | lia | (simp only [List.length_cons, List.length_nil, List.length_append, List.length_map, List.length_replicate]; lia) | (simp_all; done))) ?_ exec_nil) (exec_cons (by (repeat' first | (with_reducible first | exact ev_int | exact ev_str | exact ev_none | assumption | exact evs_nil | exact part_none | exact op_add_int _ _ | exact op_ne_int _ _ | exact op_lt_int _ _ | exact op_eq_str _ _ | exact callee_builtin _) | ((with_reducible apply ev_name) <;> exact rfl) | (with_reducible first | apply ev_meth' PySem.F.slot_str_join PySem.F.type_str_join | apply ev_bin | apply ev_cut' | apply ev_call' | apply evs_cons' | apply part_some | apply op_len_str | apply op_join | apply op_notin_L | apply cut_str_nn | apply cut_str_n_ | apply test_cmp | apply ex_assign | apply op_is) | exact .bb _ _ | exact .nn | exact .inn _ | exact .sn _ | exact .bn _ | with_reducible exact nlo _ | with_reducible exact nhi h7 (by assumption) | ((first | with_reducible show (_ ≤ _) | with_reducible show (_ < _)); first | decide | lia) | apply test_cmp | exact rfl | exact fun _ => rfl | exact fun _ _ => rfl | decide | lia | (simp only [List.length_cons, List.length_nil, List.length_append, List.length_map, List.length_replicate]; lia) | (simp_all; done))) (exec_cons (by (repeat' first | (with_reducible first | exact ev_int | exact ev_str | exact ev_none | assumption | exact evs_nil | exact part_none | exact op_add_int _ _ | exact op_ne_int _ _ | exact op_lt_int _ _ | exact op_eq_str _ _ | exact callee_builtin _) | ((with_reducible apply ev_name) <;> exact rfl) | (with_reducible first | apply ev_meth' PySem.F.slot_str_join PySem.F.type_str_join | apply ev_bin | apply ev_cut' | apply ev_call' | apply evs_cons' | apply part_some | apply op_len_str | apply op_join | apply op_notin_L | apply cut_str_nn | apply cut_str_n_ | apply test_cmp | apply ex_assign | apply op_is) | exact .bb _ _ | exact .nn | exact .inn _ | exact .sn _ | exact .bn _ | with_reducible exact nlo _ | with_reducible exact nhi h7 (by assumption) | ((first | with_reducible show (_ ≤ _) | with_reducible show (_ < _)); first | decide | lia) | apply test_cmp | exact rfl | exact fun _ => rfl | exact fun _ _ => rfl | decide | lia | (simp only [List.length_cons, List.length_nil, List.length_append, List.length_map, List.length_replicate]; lia) | (simp_all; done))) exec_nil))))))) (by (repeat' first | exact Sub.nil _ | refine Sub.cons (by rfl) ?_))
        simp
      · simp only [he, if_false, rhoS, strL_append]
        refine exec_post (exec_one (ex_if_t (by (repeat' first | (with_reducible first | exact ev_int | exact ev_str | exact ev_none | assumption | exact evs_nil | exact part_none | exact op_add_int _ _ | exact op_ne_int _ _ | exact op_lt_int _ _ | exact op_eq_str _ _ | exact callee_builtin _) | ((with_reducible apply ev_name) <;> exact rfl) | (with_reducible first | apply ev_meth' PySem.F.slot_str_join PySem.F.type_str_join | apply ev_bin | apply ev_cut' | apply ev_call' | apply evs_cons' | apply part_some | apply op_len_str | apply op_join | apply op_notin_L | apply cut_str_nn | apply cut_str_n_ | apply test_cmp | apply ex_assign | apply op_is) | exact .bb _ _ | exact .nn | exact .inn _ | exact .sn _ | exact .bn _ | with_reducible exact nlo _ | with_reducible exact nhi h7 (by assumption) | ((first | with_reducible show (_ ≤ _) | with_reducible show (_ < _)); first | decide | lia) | apply test_cmp | exact rfl | exact fun _ => rfl | exact fun _ _ => rfl | decide | lia | (simp only [List.length_cons, List.length_nil, List.length_append, List.length_map, List.length_replicate]; lia) | (simp_all; done))) hq (exec_one (ex_if_f (by (repeat' first | (with_reducible first | exact ev_int | exact ev_str | exact ev_none | assumption | exact evs_nil | exact part_none | exact op_add_int _ _ | exact op_ne_int _ _ | exact op_lt_int _ _ | exact op_eq_str _ _ | exact callee_builtin _) | ((with_reducible apply ev_name) <;> exact rfl) | (with_reducible first | apply ev_meth' PySem.F.slot_str_join PySem.F.type_str_join | apply ev_bin | apply ev_cut' | apply ev_call' | apply evs_cons' | apply part_some | apply op_len_str | apply op_join | apply op_notin_L | apply cut_str_nn | apply cut_str_n_ | apply test_cmp | apply ex_assign | apply op_is) | exact .bb _ _ | exact .nn | exact .inn _ | exact .sn _ | exact .bn _ | with_reducible exact nlo _ | with_reducible exact nhi h7 (by assumption) | ((first | with_reducible show (_ ≤ _) | with_reducible show (_ < _)); first | decide | lia) | apply test_cmp | exact rfl | exact fun _ => rfl | exact fun _ _ => rfl | decide | lia | (simp only [List.length_cons, List.length_nil, List.length_append, List.length_map, List.length_replicate]; lia) | (simp_all; done))) rfl (exec_cons (ex_if_t (by (repeat' first | (with_reducible first | exact ev_int | exact ev_str | exact ev_none | assumption | exact evs_nil | exact part_none | exact op_add_int _ _ | exact op_ne_int _ _ | exact op_lt_int _ _ | exact op_eq_str _ _ | exact callee_builtin _) | ((with_reducible apply ev_name) <;> exact rfl) | (with_reducible first | apply ev_meth' PySem.F.slot_str_join PySem.F.type_str_join | apply ev_bin | apply ev_cut' | apply ev_call' | apply evs_cons' | apply part_some | apply op_len_str | apply op_join | apply op_notin_L | apply cut_str_nn | apply cut_str_n_ | apply test_cmp | apply ex_assign | apply op_is) | exact .bb _ _ | exact .nn | exact .inn _ | exact .sn _ | exact .bn _ | with_reducible exact nlo _ | with_reducible exact nhi h7 (by assumption) | ((first | with_reducible show (_ ≤ _) | with_reducible show (_ < _)); first | decide | lia) | apply test_cmp | exact rfl | exact fun _ => rfl | exact fun _ _ => rfl | decide | lia | (simp only [List.length_cons, List.length_nil, List.length_append, List.length_map, List.length_replicate]; lia) | (simp_all; done))) ?_ (exec_one (ex_append (l := strL res) (p := .str ((addr.take o).drop start)) rfl (by (repeat' first | (with_reducible first | exact ev_int | exact ev_str | exact ev_none | assumption | exact evs_nil | exact part_none | exact op_add_int _ _ | exact op_ne_int _ _ | exact op_lt_int _ _ | exact op_eq_str _ _ | exact callee_builtin _) | ((with_reducible apply ev_name) <;> exact rfl) | (with_reducible first | apply ev_meth' PySem.F.slot_str_join PySem.F.type_str_join | apply ev_bin | apply ev_cut' | apply ev_call' | apply evs_cons' | apply part_some | apply op_len_str | apply op_join | apply op_notin_L | apply cut_str_nn | apply cut_str_n_ | apply test_cmp | apply ex_assign | apply op_is) | exact .bb _ _ | exact .nn | exact .inn _ | exact .sn _ | exact .bn _ | with_reducible exact nlo _ | with_reducible exact nhi h7 (by assumption) | ((first | with_reducible show (_ ≤ _) | with_reducible show (_ < _)); first | decide | lia) | apply test_cmp | exact rfl | exact fun _ => rfl | exact fun _ _ => rfl | decide | lia | (simp only [List.length_cons, List.length_nil, List.length_append, List.length_map, List.length_replicate]; lia) | (simp_all; done))) (by rfl) (by simp [strL]; lia) (by rfl) (by rfl)))) (exec_cons (by (repeat' first | (with_reducible first | exact ev_int | exact ev_str | exact ev_none | assumption | exact evs_nil | exact part_none | exact op_add_int _ _ | exact op_ne_int _ _ | exact op_lt_int _ _ | exact op_eq_str _ _ | exact callee_builtin _) | ((with_reducible apply ev_name) <;> exact rfl) | (with_reducible first | apply ev_meth' PySem.F.slot_str_join PySem.F.type_str_join | apply ev_bin | apply ev_cut' | apply ev_call' | apply evs_cons' | apply part_some | apply op_len_str | apply op_join | apply op_notin_L | apply cut_str_nn | apply cut_str_n_ | apply test_cmp | apply ex_assign | apply op_is) | exact .bb _ _ | exact .nn | exact .inn _ | exact .sn _ | exact .bn _ | with_reducible exact nlo _ | with_reducible exact nhi h7 (by assumption) | ((first | with_reducible show (_ ≤ _) | with_reducible show (_ < _)); first | decide | lia) | apply test_cmp | exact rfl | exact fun _ => rfl | exact fun _ _ => rfl | decide | lia | (simp only [List.length_cons, List.length_nil, List.length_append, List.length_map, List.length_replicate]; lia) | (simp_all; done))) (exec_cons (by (repeat' first | (with_reducible first | exact ev_int | exact ev_str | exact ev_none | assumption | exact evs_nil | exact part_none | exact op_add_int _ _ | exact op_ne_int _ _ | exact op_lt_int _ _ | exact op_eq_str _ _ | exact callee_builtin _) | ((with_reducible apply ev_name) <;> exact rfl) | (with_reducible first | apply ev_meth' PySem.F.slot_str_join PySem.F.type_str_join | apply ev_bin | apply ev_cut' | apply ev_call' | apply evs_cons' | apply part_some | apply op_len_str | apply op_join | apply op_notin_L | apply cut_str_nn | apply cut_str_n_ | apply test_cmp | apply ex_assign | apply op_is) | exact .bb _ _ | exact .nn | exact .inn _ | exact .sn _ | exact .bn _ | with_reducible exact nlo _ | with_reducible exact nhi h7 (by assumption) | ((first | with_reducible show (_ ≤ _) | with_reducible show (_ < _)); first | decide | lia) | apply test_cmp | exact rfl | exact fun _ => rfl | exact fun _ _ => rfl | decide | lia | (simp only [List.length_cons, List.length_nil, List.length_append, List.length_map, List.length_replicate]; lia) | (simp_all; done))) exec_nil))))))) (by (repeat' first | exact Sub.nil _ | refine Sub.cons (by rfl) ?_))
        simp; lia
  · simp only [hc, if_false]
    refine exec_post (exec_one (ex_if_f (by (repeat' first | (with_reducible first | exact ev_int | exact ev_str | exact ev_none | assumption | exact evs_nil | exact part_none | exact op_add_int _ _ | exact op_ne_int _ _ | exact op_lt_int _ _ | exact op_eq_str _ _ | exact callee_builtin _) | ((with_reducible apply ev_name) <;> exact rfl) | (with_reducible first | apply ev_meth' PySem.F.slot_str_join PySem.F.type_str_join | apply ev_bin | apply ev_cut' | apply ev_call' | apply evs_cons' | apply part_some | apply op_len_str | apply op_join | apply op_notin_L | apply cut_str_nn | apply cut_str_n_ | apply test_cmp | apply ex_assign | apply op_is) | exact .bb _ _ | exact .nn | exact .inn _ | exact .sn _ | exact .bn _ | with_reducible exact nlo _ | with_reducible exact nhi h7 (by assumption) | ((first | with_reducible show (_ ≤ _) | with_reducible show (_ < _)); first | decide | lia) | apply test_cmp | exact rfl | exact fun _ => rfl | exact fun _ _ => rfl | decide | lia | (simp only [List.length_cons, List.length_nil, List.length_append, List.length_map, List.length_replicate]; lia) | (simp_all; done))) ?_ exec_nil)) (by (repeat' first | exact Sub.nil _ | refine Sub.cons (by rfl) ?_))
    refine beq_eq_false_iff_ne.mpr fun q => hc ?_
    cases q; rfl

theorem sStep_ok (addr : List Nat) (s : SSt) (pos ch : Nat) (hp : pos < addr.length) (hs : s.start ≤ pos) (ho : ∀ o, s.op = some o → o < pos) (hr : s.res.length ≤ pos) :
    (sStep addr s pos ch).start ≤ pos + 1 ∧ (∀ o, (sStep addr s pos ch).op = some o → o < pos + 1) ∧ (sStep addr s pos ch).res.length ≤ pos + 1 := by
  obtain ⟨start, op, res⟩ := s
  simp only at hs ho hr
  unfold sStep
  by_cases hc : ch = 34
  · simp only [hc, if_true]
    cases op with
    | none => simp; lia
    | some o =>
      simp only
      by_cases he : start = o
      · simp [he]; lia
      · simp [he]; lia
  · simp only [hc, if_false]
    exact ⟨by lia, fun o h => by have := ho o h; lia, by lia⟩

theorem strip_run (addr : List Nat) (hl : addr.length < 1000000) : ∀ (r : List Nat) (pos : Nat) (s : SSt), pos + r.length = addr.length → s.start ≤ pos → (∀ o, s.op = some o → o < pos) → s.res.length ≤ pos →
    ForRun c bStrip d (wTarget fStrip) (wBody fStrip) (wElse fStrip) (escItems r pos) (rhoS addr s.start (opPV s.op) s.res) .next
      (rhoS addr (sRun addr r pos s).start (opPV (sRun addr r pos s).op) (sRun addr r pos s).res)
  | [], pos, s, _, _, _, _ => .nil exec_nil
  | ch :: r, pos, s, hp, hs, ho, hr => by
    simp only [List.length_cons] at hp
    obtain ⟨h1, h2, h3⟩ := sStep_ok addr s pos ch (by lia) hs ho hr
    rw [escItems, sRun]
    refine .cons (bind_tup (binds_cons (bind_name (by rfl)) (binds_cons (bind_name (by rfl)) binds_nil)) (by rfl) (by rfl)) (strip_body addr s pos ch hl (by lia) (by lia) (by lia)) ?_
    exact strip_run addr hl r (pos + 1) (sStep addr s pos ch) (by lia) h1 h2 h3
theorem sRun_ok (addr : List Nat) : ∀ (r : List Nat) (pos : Nat) (s : SSt), pos + r.length = addr.length → s.start ≤ pos → (∀ o, s.op = some o → o < pos) → s.res.length ≤ pos →
    (sRun addr r pos s).start ≤ addr.length ∧ (sRun addr r pos s).res.length ≤ addr.length
  | [], pos, s, hp, hs, _, hr => by simp at hp; rw [sRun]; lia
  | ch :: r, pos, s, hp, hs, ho, hr => by
    simp only [List.length_cons] at hp
    obtain ⟨h1, h2, h3⟩ := sStep_ok addr s pos ch (by lia) hs ho hr
    rw [sRun]
    exact sRun_ok addr r (pos + 1) _ (by lia) h1 h2 h3

/- how long the parts are together -/
noncomputable def tot (ls : List (List Nat)) : Nat := (ls.map List.length).sum
theorem tot_append (a b : List (List Nat)) : tot (a ++ b) = tot a + tot b := by simp [tot]
theorem sStep_tot (addr : List Nat) (s : SSt) (pos ch : Nat) (hp : pos < addr.length) (hs : s.start ≤ pos) (ho : ∀ o, s.op = some o → s.start ≤ o ∧ o < pos) (hr : tot s.res ≤ s.start) :
    (sStep addr s pos ch).start ≤ pos + 1 ∧ (∀ o, (sStep addr s pos ch).op = some o → (sStep addr s pos ch).start ≤ o ∧ o < pos + 1) ∧ tot (sStep addr s pos ch).res ≤ (sStep addr s pos ch).start := by
  obtain ⟨start, op, res⟩ := s
  simp only at hs ho hr
  unfold sStep
  by_cases hc : ch = 34
  · simp only [hc, if_true]
    cases op with
    | none => exact ⟨Nat.le_succ_of_le hs, fun o h => by cases h; exact ⟨hs, Nat.lt_succ_self _⟩, hr⟩
    | some o =>
      obtain ⟨q1, q2⟩ := ho o rfl
      simp only
      have hsp : start ≤ pos + 1 := Nat.le_succ_of_le hs
      by_cases he : start = o
      · rw [if_pos he]
        exact ⟨Nat.le_refl _, fun o h => (by cases h), Nat.le_trans hr hsp⟩
      · refine ⟨Nat.le_refl _, fun o h => (by cases h), ?_⟩
        rw [if_neg he, tot_append]
        have e : tot [(addr.take o).drop start] ≤ o - start := by
          show ((addr.take o).drop start).length + 0 ≤ _
          rw [List.length_drop, List.length_take]
          exact Nat.sub_le_sub_right (Nat.min_le_left _ _) _
        refine Nat.le_trans (Nat.add_le_add hr e) ?_
        rw [Nat.add_sub_of_le q1]
        exact Nat.le_succ_of_le (Nat.le_of_lt q2)
  · simp only [hc, if_false]
    exact ⟨Nat.le_succ_of_le hs, fun o h => ⟨(ho o h).1, Nat.lt_succ_of_lt (ho o h).2⟩, hr⟩
theorem sRun_tot (addr : List Nat) : ∀ (r : List Nat) (pos : Nat) (s : SSt), pos + r.length = addr.length → s.start ≤ pos → (∀ o, s.op = some o → s.start ≤ o ∧ o < pos) → tot s.res ≤ s.start →
    tot (sRun addr r pos s).res ≤ (sRun addr r pos s).start
  | [], pos, s, hp, hs, _, hr => by rw [sRun]; exact hr
  | ch :: r, pos, s, hp, hs, ho, hr => by
    simp only [List.length_cons] at hp
    obtain ⟨h1, h2, h3⟩ := sStep_tot addr s pos ch (by lia) hs ho hr
    rw [sRun]
    exact sRun_tot addr r (pos + 1) _ (by lia) h1 h2 h3

theorem glue_nil : ∀ (ls : List (List Nat)), glueL [] ls = ls.flatten
  | [] => rfl
  | [p] => by simp [glueL]
  | p :: q :: r => by rw [glueL, glue_nil (q :: r)]; simp
theorem glue_len (ls : List (List Nat)) : (glueL [] ls).length = tot ls := by rw [glue_nil, List.length_flatten]; rfl
theorem stripF_len (addr : List Nat) : (stripF addr).length ≤ addr.length := by
  unfold stripF
  split
  · rw [glue_len]
    obtain ⟨h1, _⟩ := sRun_ok addr addr 0 ⟨0, none, []⟩ (by simp) (Nat.le_refl _) (fun o h => by cases h) (by simp)
    have h2 := sRun_tot addr addr 0 ⟨0, none, []⟩ (by simp) (Nat.le_refl _) (fun o h => by cases h) (by simp [tot])
    unfold stripEnd
    split
    · rw [tot_append]; simp only [tot, List.map_cons, List.map_nil, List.sum_cons, List.sum_nil, List.length_drop] at h2 ⊢; lia
    · lia
  · exact Nat.le_refl _

/- where the generator stands -/
structure EscAt (c : Cx) (g : Addr) : Prop where
  fn : FnAt c g [("addr" : Str)] (fBody sEsc) (fScope sEsc)
  glob : GlobV c "_iter_escaped_chars" (.ref g)
  en : GlobV c "enumerate" (.type "enumerate")
theorem esc_body : EscBody (fBody sEsc) := ⟨_, _, _, _, _, _, _, _, _, _, _, _, _, _, _, _, _, _, _, _, _, _, _, _, _, _, _, _, _, _, _, rfl⟩
theorem EscAt.blk {g : Addr} (h : EscAt c g) : EscBlk c ⟨fScope sEsc, []⟩ where
  kind := rfl
  nocell := by decide +kernel
  loc := fun x hx => by rcases hx with rfl | rfl | rfl | rfl <;> rfl
  co := rfl
  gl := rfl
  en := h.en

theorem op_strip {a g : Addr} (fn : FnAt c a ["addr"] (fBody sStrip) (fScope sStrip)) (he : EscAt c g) (glen : GlobV c "len" (.builtin "len")) (addr : List Nat) (hl : addr.length < 1000000) (hb : ∀ ch ∈ addr, ch ≠ 92) :
    Op c 3 (fun vs => call (.ref a) vs) [.str addr] (.str (stripF addr)) := by
  refine fn_ret fn (by rfl) (by rfl) ?_
  have hl2 := stripF_len addr
  unfold stripF at hl2 ⊢
  have hone : (occS [34] addr 0 0).isEmpty = !addr.contains 34 := occ_one 34 addr 0
  by_cases h : 34 ∈ addr
  · rw [if_pos h] at hl2 ⊢
    have hc : addr.contains 34 = true := List.contains_iff_mem.mpr h
    refine ret_skip (by (repeat' first | (with_reducible first | exact ev_int | exact ev_str | exact ev_none | assumption | exact evs_nil | exact part_none | exact op_add_int _ _ | exact op_ne_int _ _ | exact op_lt_int _ _ | exact op_eq_str _ _ | exact callee_builtin _) | ((with_reducible apply ev_name) <;> exact rfl) | (with_reducible first | apply ev_meth' PySem.F.slot_str_join PySem.F.type_str_join | apply ev_bin | apply ev_cut' | apply ev_call' | apply evs_cons' | apply part_some | apply op_len_str | apply op_join | apply op_notin_L | apply cut_str_nn | apply cut_str_n_ | apply test_cmp | apply ex_assign | apply op_is) | exact .bb _ _ | exact .nn | exact .inn _ | exact .sn _ | exact .bn _ | with_reducible exact nlo _ | with_reducible exact nhi h7 (by assumption) | ((first | with_reducible show (_ ≤ _) | with_reducible show (_ < _)); first | decide | lia) | apply test_cmp | exact rfl | exact fun _ => rfl | exact fun _ _ => rfl | decide | lia | (simp only [List.length_cons, List.length_nil, List.length_append, List.length_map, List.length_replicate]; lia) | (simp_all; done))) (by show (occS [34] addr 0 0).isEmpty = false; rw [hone, hc]; rfl) ?_
    refine ret_cons (by (repeat' first | (with_reducible first | exact ev_int | exact ev_str | exact ev_none | assumption | exact evs_nil | exact part_none | exact op_add_int _ _ | exact op_ne_int _ _ | exact op_lt_int _ _ | exact op_eq_str _ _ | exact callee_builtin _) | ((with_reducible apply ev_name) <;> exact rfl) | (with_reducible first | apply ev_meth' PySem.F.slot_str_join PySem.F.type_str_join | apply ev_bin | apply ev_cut' | apply ev_call' | apply evs_cons' | apply part_some | apply op_len_str | apply op_join | apply op_notin_L | apply cut_str_nn | apply cut_str_n_ | apply test_cmp | apply ex_assign | apply op_is) | exact .bb _ _ | exact .nn | exact .inn _ | exact .sn _ | exact .bn _ | with_reducible exact nlo _ | with_reducible exact nhi h7 (by assumption) | ((first | with_reducible show (_ ≤ _) | with_reducible show (_ < _)); first | decide | lia) | apply test_cmp | exact rfl | exact fun _ => rfl | exact fun _ _ => rfl | decide | lia | (simp only [List.length_cons, List.length_nil, List.length_append, List.length_map, List.length_replicate]; lia) | (simp_all; done))) (ret_cons (by (repeat' first | (with_reducible first | exact ev_int | exact ev_str | exact ev_none | assumption | exact evs_nil | exact part_none | exact op_add_int _ _ | exact op_ne_int _ _ | exact op_lt_int _ _ | exact op_eq_str _ _ | exact callee_builtin _) | ((with_reducible apply ev_name) <;> exact rfl) | (with_reducible first | apply ev_meth' PySem.F.slot_str_join PySem.F.type_str_join | apply ev_bin | apply ev_cut' | apply ev_call' | apply evs_cons' | apply part_some | apply op_len_str | apply op_join | apply op_notin_L | apply cut_str_nn | apply cut_str_n_ | apply test_cmp | apply ex_assign | apply op_is) | exact .bb _ _ | exact .nn | exact .inn _ | exact .sn _ | exact .bn _ | with_reducible exact nlo _ | with_reducible exact nhi h7 (by assumption) | ((first | with_reducible show (_ ≤ _) | with_reducible show (_ < _)); first | decide | lia) | apply test_cmp | exact rfl | exact fun _ => rfl | exact fun _ _ => rfl | decide | lia | (simp only [List.length_cons, List.length_nil, List.length_append, List.length_map, List.length_replicate]; lia) | (simp_all; done))) (ret_cons (ex_own (l := []) (new_list (ps := []) (by (repeat' first | (with_reducible first | exact ev_int | exact ev_str | exact ev_none | assumption | exact evs_nil | exact part_none | exact op_add_int _ _ | exact op_ne_int _ _ | exact op_lt_int _ _ | exact op_eq_str _ _ | exact callee_builtin _) | ((with_reducible apply ev_name) <;> exact rfl) | (with_reducible first | apply ev_meth' PySem.F.slot_str_join PySem.F.type_str_join | apply ev_bin | apply ev_cut' | apply ev_call' | apply evs_cons' | apply part_some | apply op_len_str | apply op_join | apply op_notin_L | apply cut_str_nn | apply cut_str_n_ | apply test_cmp | apply ex_assign | apply op_is) | exact .bb _ _ | exact .nn | exact .inn _ | exact .sn _ | exact .bn _ | with_reducible exact nlo _ | with_reducible exact nhi h7 (by assumption) | ((first | with_reducible show (_ ≤ _) | with_reducible show (_ < _)); first | decide | lia) | apply test_cmp | exact rfl | exact fun _ => rfl | exact fun _ _ => rfl | decide | lia | (simp only [List.length_cons, List.length_nil, List.length_append, List.length_map, List.length_replicate]; lia) | (simp_all; done))) (by decide)) (by rfl) (by intro _ _; rfl)) ?_))
    have hrun := strip_run (c := c) (d := 2) addr hl addr 0 ⟨0, none, []⟩ (by simp) (Nat.le_refl _) (fun o h => by cases h) (by simp)
    obtain ⟨q1, q2⟩ := sRun_ok addr addr 0 ⟨0, none, []⟩ (by simp) (Nat.le_refl _) (fun o h => by cases h) (by simp)
    refine ret_cons (ex_for_gen (l := addr) (d := 0) he.fn esc_body he.blk rfl (by rfl) he.glob (by (repeat' first | (with_reducible first | exact ev_int | exact ev_str | exact ev_none | assumption | exact evs_nil | exact part_none | exact op_add_int _ _ | exact op_ne_int _ _ | exact op_lt_int _ _ | exact op_eq_str _ _ | exact callee_builtin _) | ((with_reducible apply ev_name) <;> exact rfl) | (with_reducible first | apply ev_meth' PySem.F.slot_str_join PySem.F.type_str_join | apply ev_bin | apply ev_cut' | apply ev_call' | apply evs_cons' | apply part_some | apply op_len_str | apply op_join | apply op_notin_L | apply cut_str_nn | apply cut_str_n_ | apply test_cmp | apply ex_assign | apply op_is) | exact .bb _ _ | exact .nn | exact .inn _ | exact .sn _ | exact .bn _ | with_reducible exact nlo _ | with_reducible exact nhi h7 (by assumption) | ((first | with_reducible show (_ ≤ _) | with_reducible show (_ < _)); first | decide | lia) | apply test_cmp | exact rfl | exact fun _ => rfl | exact fun _ _ => rfl | decide | lia | (simp only [List.length_cons, List.length_nil, List.length_append, List.length_map, List.length_replicate]; lia) | (simp_all; done))) hb (by rfl) hrun) ?_
    rw [glue_len] at hl2
    unfold stripEnd at hl2 ⊢
    generalize sRun addr addr 0 ⟨0, none, []⟩ = s at q1 q2 hl2 ⊢
    obtain ⟨start, op, res⟩ := s
    simp only at q1 q2 hl2 ⊢
    by_cases hs : start < addr.length
    · rw [if_pos hs] at hl2 ⊢
      refine ret_cons (ρ₁ := rhoS addr start (opPV op) (res ++ [addr.drop start])) (ex_if_t (by (repeat' first | (with_reducible first | exact ev_int | exact ev_str | exact ev_none | assumption | exact evs_nil | exact part_none | exact op_add_int _ _ | exact op_ne_int _ _ | exact op_lt_int _ _ | exact op_eq_str _ _ | exact callee_builtin _) | ((with_reducible apply ev_name) <;> exact rfl) | (with_reducible first | apply ev_meth' PySem.F.slot_str_join PySem.F.type_str_join | apply ev_bin | apply ev_cut' | apply ev_call' | apply evs_cons' | apply part_some | apply op_len_str | apply op_join | apply op_notin_L | apply cut_str_nn | apply cut_str_n_ | apply test_cmp | apply ex_assign | apply op_is) | exact .bb _ _ | exact .nn | exact .inn _ | exact .sn _ | exact .bn _ | with_reducible exact nlo _ | with_reducible exact nhi h7 (by assumption) | ((first | with_reducible show (_ ≤ _) | with_reducible show (_ < _)); first | decide | lia) | apply test_cmp | exact rfl | exact fun _ => rfl | exact fun _ _ => rfl | decide | lia | (simp only [List.length_cons, List.length_nil, List.length_append, List.length_map, List.length_replicate]; lia) | (simp_all; done))) (decide_eq_true (by lia)) (exec_one ?_)) ?_
      · simp only [rhoS, strL_append]
        exact ex_append (l := strL res) (p := .str (addr.drop start)) rfl (by (repeat' first | (with_reducible first | exact ev_int | exact ev_str | exact ev_none | assumption | exact evs_nil | exact part_none | exact op_add_int _ _ | exact op_ne_int _ _ | exact op_lt_int _ _ | exact op_eq_str _ _ | exact callee_builtin _) | ((with_reducible apply ev_name) <;> exact rfl) | (with_reducible first | apply ev_meth' PySem.F.slot_str_join PySem.F.type_str_join | apply ev_bin | apply ev_cut' | apply ev_call' | apply evs_cons' | apply part_some | apply op_len_str | apply op_join | apply op_notin_L | apply cut_str_nn | apply cut_str_n_ | apply test_cmp | apply ex_assign | apply op_is) | exact .bb _ _ | exact .nn | exact .inn _ | exact .sn _ | exact .bn _ | with_reducible exact nlo _ | with_reducible exact nhi h7 (by assumption) | ((first | with_reducible show (_ ≤ _) | with_reducible show (_ < _)); first | decide | lia) | apply test_cmp | exact rfl | exact fun _ => rfl | exact fun _ _ => rfl | decide | lia | (simp only [List.length_cons, List.length_nil, List.length_append, List.length_map, List.length_replicate]; lia) | (simp_all; done))) (by rfl) (by simp [strL]; lia) (by rfl) (by rfl)
      · refine ret_freeze (x := "result") rfl (ret_ret ?_)
        have hj : ((res ++ [addr.drop start]).map List.length).sum + (res ++ [addr.drop start]).length * ((Str.ofString "").cps.toList).length ≤ 16777216 := by
          have e : ((Str.ofString "").cps.toList).length = 0 := rfl
          unfold tot at hl2; rw [e, Nat.mul_zero]; lia
        exact ev_eq (by (repeat' first | (with_reducible first | exact ev_int | exact ev_str | exact ev_none | assumption | exact evs_nil | exact part_none | exact op_add_int _ _ | exact op_ne_int _ _ | exact op_lt_int _ _ | exact op_eq_str _ _ | exact callee_builtin _) | ((with_reducible apply ev_name) <;> exact rfl) | (with_reducible first | apply ev_meth' PySem.F.slot_str_join PySem.F.type_str_join | apply ev_bin | apply ev_cut' | apply ev_call' | apply evs_cons' | apply part_some | apply op_len_str | apply op_join | apply op_notin_L | apply cut_str_nn | apply cut_str_n_ | apply test_cmp | apply ex_assign | apply op_is) | exact .bb _ _ | exact .nn | exact .inn _ | exact .sn _ | exact .bn _ | with_reducible exact nlo _ | with_reducible exact nhi h7 (by assumption) | ((first | with_reducible show (_ ≤ _) | with_reducible show (_ < _)); first | decide | lia) | apply test_cmp | exact rfl | exact fun _ => rfl | exact fun _ _ => rfl | decide | lia | (simp only [List.length_cons, List.length_nil, List.length_append, List.length_map, List.length_replicate]; lia) | (simp_all; done))) (by rfl)
    · rw [if_neg hs] at hl2 ⊢
      refine ret_skip (by (repeat' first | (with_reducible first | exact ev_int | exact ev_str | exact ev_none | assumption | exact evs_nil | exact part_none | exact op_add_int _ _ | exact op_ne_int _ _ | exact op_lt_int _ _ | exact op_eq_str _ _ | exact callee_builtin _) | ((with_reducible apply ev_name) <;> exact rfl) | (with_reducible first | apply ev_meth' PySem.F.slot_str_join PySem.F.type_str_join | apply ev_bin | apply ev_cut' | apply ev_call' | apply evs_cons' | apply part_some | apply op_len_str | apply op_join | apply op_notin_L | apply cut_str_nn | apply cut_str_n_ | apply test_cmp | apply ex_assign | apply op_is) | exact .bb _ _ | exact .nn | exact .inn _ | exact .sn _ | exact .bn _ | with_reducible exact nlo _ | with_reducible exact nhi h7 (by assumption) | ((first | with_reducible show (_ ≤ _) | with_reducible show (_ < _)); first | decide | lia) | apply test_cmp | exact rfl | exact fun _ => rfl | exact fun _ _ => rfl | decide | lia | (simp only [List.length_cons, List.length_nil, List.length_append, List.length_map, List.length_replicate]; lia) | (simp_all; done))) (decide_eq_false (by lia)) ?_
      refine ret_freeze (x := "result") rfl (ret_ret ?_)
      have hj : (res.map List.length).sum + res.length * ((Str.ofString "").cps.toList).length ≤ 16777216 := by
        have e : ((Str.ofString "").cps.toList).length = 0 := rfl
        unfold tot at hl2; rw [e, Nat.mul_zero]; lia
      exact ev_eq (by (repeat' first | (with_reducible first | exact ev_int | exact ev_str | exact ev_none | assumption | exact evs_nil | exact part_none | exact op_add_int _ _ | exact op_ne_int _ _ | exact op_lt_int _ _ | exact op_eq_str _ _ | exact callee_builtin _) | ((with_reducible apply ev_name) <;> exact rfl) | (with_reducible first | apply ev_meth' PySem.F.slot_str_join PySem.F.type_str_join | apply ev_bin | apply ev_cut' | apply ev_call' | apply evs_cons' | apply part_some | apply op_len_str | apply op_join | apply op_notin_L | apply cut_str_nn | apply cut_str_n_ | apply test_cmp | apply ex_assign | apply op_is) | exact .bb _ _ | exact .nn | exact .inn _ | exact .sn _ | exact .bn _ | with_reducible exact nlo _ | with_reducible exact nhi h7 (by assumption) | ((first | with_reducible show (_ ≤ _) | with_reducible show (_ < _)); first | decide | lia) | apply test_cmp | exact rfl | exact fun _ => rfl | exact fun _ _ => rfl | decide | lia | (simp only [List.length_cons, List.length_nil, List.length_append, List.length_map, List.length_replicate]; lia) | (simp_all; done))) (by rfl)
  · rw [if_neg h]
    have hc : addr.contains 34 = false := by
      cases q : addr.contains 34 with
      | false => rfl
      | true => exact absurd (List.contains_iff_mem.mp q) h
    exact ret_if_t (by (repeat' first | (with_reducible first | exact ev_int | exact ev_str | exact ev_none | assumption | exact evs_nil | exact part_none | exact op_add_int _ _ | exact op_ne_int _ _ | exact op_lt_int _ _ | exact op_eq_str _ _ | exact callee_builtin _) | ((with_reducible apply ev_name) <;> exact rfl) | (with_reducible first | apply ev_meth' PySem.F.slot_str_join PySem.F.type_str_join | apply ev_bin | apply ev_cut' | apply ev_call' | apply evs_cons' | apply part_some | apply op_len_str | apply op_join | apply op_notin_L | apply cut_str_nn | apply cut_str_n_ | apply test_cmp | apply ex_assign | apply op_is) | exact .bb _ _ | exact .nn | exact .inn _ | exact .sn _ | exact .bn _ | with_reducible exact nlo _ | with_reducible exact nhi h7 (by assumption) | ((first | with_reducible show (_ ≤ _) | with_reducible show (_ < _)); first | decide | lia) | apply test_cmp | exact rfl | exact fun _ => rfl | exact fun _ _ => rfl | decide | lia | (simp only [List.length_cons, List.length_nil, List.length_append, List.length_map, List.length_replicate]; lia) | (simp_all; done))) (by show (occS [34] addr 0 0).isEmpty = true; rw [hone, hc]; rfl) (ret_ret (by (repeat' first | (with_reducible first | exact ev_int | exact ev_str | exact ev_none | assumption | exact evs_nil | exact part_none | exact op_add_int _ _ | exact op_ne_int _ _ | exact op_lt_int _ _ | exact op_eq_str _ _ | exact callee_builtin _) | ((with_reducible apply ev_name) <;> exact rfl) | (with_reducible first | apply ev_meth' PySem.F.slot_str_join PySem.F.type_str_join | apply ev_bin | apply ev_cut' | apply ev_call' | apply evs_cons' | apply part_some | apply op_len_str | apply op_join | apply op_notin_L | apply cut_str_nn | apply cut_str_n_ | apply test_cmp | apply ex_assign | apply op_is) | exact .bb _ _ | exact .nn | exact .inn _ | exact .sn _ | exact .bn _ | with_reducible exact nlo _ | with_reducible exact nhi h7 (by assumption) | ((first | with_reducible show (_ ≤ _) | with_reducible show (_ < _)); first | decide | lia) | apply test_cmp | exact rfl | exact fun _ => rfl | exact fun _ _ => rfl | decide | lia | (simp only [List.length_cons, List.length_nil, List.length_append, List.length_map, List.length_replicate]; lia) | (simp_all; done))))
end
end Mine
open PySem PySem.W PyProof.Rows
open PySem.Builtin PySem.Builtin.Str
set_option Elab.async false
set_option maxRecDepth 100000
set_option linter.unusedVariables false
set_option autoImplicit false
set_option maxHeartbeats 1000000
namespace Mine
section
variable {c : Cx} {d : Nat}

theorem sRun_mem (addr : List Nat) : ∀ (r : List Nat) (pos : Nat) (s : SSt), (∀ w ∈ s.res, ∀ ch ∈ w, ch ∈ addr) → ∀ w ∈ (sRun addr r pos s).res, ∀ ch ∈ w, ch ∈ addr
  | [], pos, s, h => h
  | ch :: r, pos, s, h => by
    rw [sRun]
    refine sRun_mem addr r (pos + 1) _ ?_
    obtain ⟨start, op, res⟩ := s
    simp only at h
    unfold sStep
    by_cases hc : ch = 34
    · simp only [hc, if_true]
      cases op with
      | none => exact h
      | some o =>
        simp only
        by_cases he : start = o
        · simp only [he, if_true]; exact h
        · simp only [he, if_false]
          intro w hw ch hch
          rcases List.mem_append.mp hw with hw | hw
          · exact h w hw ch hch
          · rw [List.mem_singleton.mp hw] at hch
            exact List.mem_of_mem_take (List.mem_of_mem_drop hch)
    · simp only [hc, if_false]; exact h
theorem stripF_mem (addr : List Nat) : ∀ ch ∈ stripF addr, ch ∈ addr := by
  intro ch hch
  unfold stripF at hch
  split at hch
  · rw [glue_nil, List.mem_flatten] at hch
    obtain ⟨w, hw, h⟩ := hch
    have key := sRun_mem addr addr 0 ⟨0, none, []⟩ (fun w h => by simp at h)
    unfold stripEnd at hw
    split at hw
    · rcases List.mem_append.mp hw with hw | hw
      · exact key w hw ch h
      · rw [List.mem_singleton.mp hw] at h; exact List.mem_of_mem_drop h
    · exact key w hw ch h
  · exact hch

noncomputable def chkGo : List Nat → Int → Bool
  | [], o => o == 0
  | ch :: r, o => if ch = 40 then chkGo r (o + 1) else if ch = 41 then (if o - 1 < 0 then false else chkGo r (o - 1)) else chkGo r o
noncomputable def checkF (addr : List Nat) : Bool := chkGo (stripF addr) 0

noncomputable abbrev bCheck : Blk := fBlk sCheck
noncomputable abbrev fCheck : Stmt := nth (fBody sCheck) 2
noncomputable abbrev rhoC (addr : List Nat) (o : Int) : Rho := [("addr", .val (.str addr)), ("opens", .val (.int o))]
theorem check_run (addr : List Nat) : ∀ (r : List Nat) (pos : Nat) (o : Int),
    (∃ o' : Int, ForRun c bCheck d (wTarget fCheck) (wBody fCheck) (wElse fCheck) (escItems r pos) (rhoC addr o) .next (rhoC addr o') ∧ chkGo r o = (o' == 0)) ∨
    (∃ ρ', ForRun c bCheck d (wTarget fCheck) (wBody fCheck) (wElse fCheck) (escItems r pos) (rhoC addr o) (.ret (.bool false)) ρ' ∧ chkGo r o = false)
  | [], pos, o => .inl ⟨o, .nil exec_nil, rfl⟩
  | ch :: r, pos, o => by
    rw [escItems, chkGo]
    have bd : Bind c bCheck d (wTarget fCheck) (.tup [.int pos, .str [ch]]) (rhoC addr o) (rset (rset (rhoC addr o) "pos" (.val (.int pos))) "ch" (.val (.str [ch]))) :=
      bind_tup (binds_cons (bind_name (by rfl)) (binds_cons (bind_name (by rfl)) binds_nil)) (by rfl) (by rfl)
    have go : ∀ o₁ : Int, Exec c bCheck d (wBody fCheck) (rset (rset (rhoC addr o) "pos" (.val (.int pos))) "ch" (.val (.str [ch]))) .next (rhoC addr o₁) →
        (∃ o' : Int, ForRun c bCheck d (wTarget fCheck) (wBody fCheck) (wElse fCheck) (.tup [.int pos, .str [ch]] :: escItems r (pos + 1)) (rhoC addr o) .next (rhoC addr o') ∧ chkGo r o₁ = (o' == 0)) ∨
        (∃ ρ', ForRun c bCheck d (wTarget fCheck) (wBody fCheck) (wElse fCheck) (.tup [.int pos, .str [ch]] :: escItems r (pos + 1)) (rhoC addr o) (.ret (.bool false)) ρ' ∧ chkGo r o₁ = false) := fun o₁ hx => by
      rcases check_run addr r (pos + 1) o₁ with ⟨o', h1, h2⟩ | ⟨ρ', h1, h2⟩
      · exact .inl ⟨o', .cons bd hx h1, h2⟩
      · exact .inr ⟨ρ', .cons bd hx h1, h2⟩
    have hq : ∀ a : Nat, ([ch] == [a]) = decide (ch = a) := fun a => by rw [Bool.eq_iff_iff]; simp
    by_cases h40 : ch = 40
    · rw [if_pos h40]
      exact go _ (exec_post (exec_one (ex_if_t (by (repeat' first | (with_reducible first | exact ev_int | exact ev_str | exact ev_bool | assumption | exact evs_nil | exact op_iadd_int _ _ | exact op_isub_int _ _ | exact op_eq_int _ _ | exact op_lt_int _ _ | exact op_eq_str _ _) | ((with_reducible apply ev_name) <;> exact rfl) | (with_reducible first | apply ev_cmp | apply ev_call' | apply evs_cons' | apply test_cmp | apply ex_assign | apply ex_aug) | with_reducible exact nlo _ | with_reducible exact nhi h7 (by assumption) | ((first | with_reducible show (_ ≤ _) | with_reducible show (_ < _)); first | decide | lia) | apply test_cmp | exact rfl | exact fun _ => rfl | exact fun _ _ => rfl | decide | lia | (simp only [List.length_cons, List.length_nil, List.length_append, List.length_map, List.length_replicate]; lia) | (simp_all; done))) (by show ([ch] == [40]) = true; rw [hq]; exact decide_eq_true h40) (exec_one (by (repeat' first | (with_reducible first | exact ev_int | exact ev_str | exact ev_bool | assumption | exact evs_nil | exact op_iadd_int _ _ | exact op_isub_int _ _ | exact op_eq_int _ _ | exact op_lt_int _ _ | exact op_eq_str _ _) | ((with_reducible apply ev_name) <;> exact rfl) | (with_reducible first | apply ev_cmp | apply ev_call' | apply evs_cons' | apply test_cmp | apply ex_assign | apply ex_aug) | with_reducible exact nlo _ | with_reducible exact nhi h7 (by assumption) | ((first | with_reducible show (_ ≤ _) | with_reducible show (_ < _)); first | decide | lia) | apply test_cmp | exact rfl | exact fun _ => rfl | exact fun _ _ => rfl | decide | lia | (simp only [List.length_cons, List.length_nil, List.length_append, List.length_map, List.length_replicate]; lia) | (simp_all; done)))))) (by (repeat' first | exact Sub.nil _ | refine Sub.cons (by rfl) ?_)))
    · rw [if_neg h40]
      by_cases h41 : ch = 41
      · rw [if_pos h41]
        by_cases h0 : o - 1 < 0
        · rw [if_pos h0]
          exact .inr ⟨_, .ret bd (exec_stop (ex_if_f (by (repeat' first | (with_reducible first | exact ev_int | exact ev_str | exact ev_bool | assumption | exact evs_nil | exact op_iadd_int _ _ | exact op_isub_int _ _ | exact op_eq_int _ _ | exact op_lt_int _ _ | exact op_eq_str _ _) | ((with_reducible apply ev_name) <;> exact rfl) | (with_reducible first | apply ev_cmp | apply ev_call' | apply evs_cons' | apply test_cmp | apply ex_assign | apply ex_aug) | with_reducible exact nlo _ | with_reducible exact nhi h7 (by assumption) | ((first | with_reducible show (_ ≤ _) | with_reducible show (_ < _)); first | decide | lia) | apply test_cmp | exact rfl | exact fun _ => rfl | exact fun _ _ => rfl | decide | lia | (simp only [List.length_cons, List.length_nil, List.length_append, List.length_map, List.length_replicate]; lia) | (simp_all; done))) (by show ([ch] == [40]) = false; rw [hq]; exact decide_eq_false h40) (exec_one (ex_if_t (by (repeat' first | (with_reducible first | exact ev_int | exact ev_str | exact ev_bool | assumption | exact evs_nil | exact op_iadd_int _ _ | exact op_isub_int _ _ | exact op_eq_int _ _ | exact op_lt_int _ _ | exact op_eq_str _ _) | ((with_reducible apply ev_name) <;> exact rfl) | (with_reducible first | apply ev_cmp | apply ev_call' | apply evs_cons' | apply test_cmp | apply ex_assign | apply ex_aug) | with_reducible exact nlo _ | with_reducible exact nhi h7 (by assumption) | ((first | with_reducible show (_ ≤ _) | with_reducible show (_ < _)); first | decide | lia) | apply test_cmp | exact rfl | exact fun _ => rfl | exact fun _ _ => rfl | decide | lia | (simp only [List.length_cons, List.length_nil, List.length_append, List.length_map, List.length_replicate]; lia) | (simp_all; done))) (by show ([ch] == [41]) = true; rw [hq]; exact decide_eq_true h41)
            (exec_cons (by (repeat' first | (with_reducible first | exact ev_int | exact ev_str | exact ev_bool | assumption | exact evs_nil | exact op_iadd_int _ _ | exact op_isub_int _ _ | exact op_eq_int _ _ | exact op_lt_int _ _ | exact op_eq_str _ _) | ((with_reducible apply ev_name) <;> exact rfl) | (with_reducible first | apply ev_cmp | apply ev_call' | apply evs_cons' | apply test_cmp | apply ex_assign | apply ex_aug) | with_reducible exact nlo _ | with_reducible exact nhi h7 (by assumption) | ((first | with_reducible show (_ ≤ _) | with_reducible show (_ < _)); first | decide | lia) | apply test_cmp | exact rfl | exact fun _ => rfl | exact fun _ _ => rfl | decide | lia | (simp only [List.length_cons, List.length_nil, List.length_append, List.length_map, List.length_replicate]; lia) | (simp_all; done))) (exec_one (ex_if_t (by (repeat' first | (with_reducible first | exact ev_int | exact ev_str | exact ev_bool | assumption | exact evs_nil | exact op_iadd_int _ _ | exact op_isub_int _ _ | exact op_eq_int _ _ | exact op_lt_int _ _ | exact op_eq_str _ _) | ((with_reducible apply ev_name) <;> exact rfl) | (with_reducible first | apply ev_cmp | apply ev_call' | apply evs_cons' | apply test_cmp | apply ex_assign | apply ex_aug) | with_reducible exact nlo _ | with_reducible exact nhi h7 (by assumption) | ((first | with_reducible show (_ ≤ _) | with_reducible show (_ < _)); first | decide | lia) | apply test_cmp | exact rfl | exact fun _ => rfl | exact fun _ _ => rfl | decide | lia | (simp only [List.length_cons, List.length_nil, List.length_append, List.length_map, List.length_replicate]; lia) | (simp_all; done))) (decide_eq_true h0) (exec_ret (by (repeat' first | (with_reducible first | exact ev_int | exact ev_str | exact ev_bool | assumption | exact evs_nil | exact op_iadd_int _ _ | exact op_isub_int _ _ | exact op_eq_int _ _ | exact op_lt_int _ _ | exact op_eq_str _ _) | ((with_reducible apply ev_name) <;> exact rfl) | (with_reducible first | apply ev_cmp | apply ev_call' | apply evs_cons' | apply test_cmp | apply ex_assign | apply ex_aug) | with_reducible exact nlo _ | with_reducible exact nhi h7 (by assumption) | ((first | with_reducible show (_ ≤ _) | with_reducible show (_ < _)); first | decide | lia) | apply test_cmp | exact rfl | exact fun _ => rfl | exact fun _ _ => rfl | decide | lia | (simp only [List.length_cons, List.length_nil, List.length_append, List.length_map, List.length_replicate]; lia) | (simp_all; done)))))))))) (by intro h; cases h)), rfl⟩
        · rw [if_neg h0]
          exact go _ (exec_post (exec_one (ex_if_f (by (repeat' first | (with_reducible first | exact ev_int | exact ev_str | exact ev_bool | assumption | exact evs_nil | exact op_iadd_int _ _ | exact op_isub_int _ _ | exact op_eq_int _ _ | exact op_lt_int _ _ | exact op_eq_str _ _) | ((with_reducible apply ev_name) <;> exact rfl) | (with_reducible first | apply ev_cmp | apply ev_call' | apply evs_cons' | apply test_cmp | apply ex_assign | apply ex_aug) | with_reducible exact nlo _ | with_reducible exact nhi h7 (by assumption) | ((first | with_reducible show (_ ≤ _) | with_reducible show (_ < _)); first | decide | lia) | apply test_cmp | exact rfl | exact fun _ => rfl | exact fun _ _ => rfl | decide | lia | (simp only [List.length_cons, List.length_nil, List.length_append, List.length_map, List.length_replicate]; lia) | (simp_all; done))) (by show ([ch] == [40]) = false; rw [hq]; exact decide_eq_false h40) (exec_one (ex_if_t (by (repeat' first | (with_reducible first | exact ev_int | exact ev_str | exact ev_bool | assumption | exact evs_nil | exact op_iadd_int _ _ | exact op_isub_int _ _ | exact op_eq_int _ _ | exact op_lt_int _ _ | exact op_eq_str _ _) | ((with_reducible apply ev_name) <;> exact rfl) | (with_reducible first | apply ev_cmp | apply ev_call' | apply evs_cons' | apply test_cmp | apply ex_assign | apply ex_aug) | with_reducible exact nlo _ | with_reducible exact nhi h7 (by assumption) | ((first | with_reducible show (_ ≤ _) | with_reducible show (_ < _)); first | decide | lia) | apply test_cmp | exact rfl | exact fun _ => rfl | exact fun _ _ => rfl | decide | lia | (simp only [List.length_cons, List.length_nil, List.length_append, List.length_map, List.length_replicate]; lia) | (simp_all; done))) (by show ([ch] == [41]) = true; rw [hq]; exact decide_eq_true h41)
            (exec_cons (by (repeat' first | (with_reducible first | exact ev_int | exact ev_str | exact ev_bool | assumption | exact evs_nil | exact op_iadd_int _ _ | exact op_isub_int _ _ | exact op_eq_int _ _ | exact op_lt_int _ _ | exact op_eq_str _ _) | ((with_reducible apply ev_name) <;> exact rfl) | (with_reducible first | apply ev_cmp | apply ev_call' | apply evs_cons' | apply test_cmp | apply ex_assign | apply ex_aug) | with_reducible exact nlo _ | with_reducible exact nhi h7 (by assumption) | ((first | with_reducible show (_ ≤ _) | with_reducible show (_ < _)); first | decide | lia) | apply test_cmp | exact rfl | exact fun _ => rfl | exact fun _ _ => rfl | decide | lia | (simp only [List.length_cons, List.length_nil, List.length_append, List.length_map, List.length_replicate]; lia) | (simp_all; done))) (exec_one (ex_if_f (by (repeat' first | (with_reducible first | exact ev_int | exact ev_str | exact ev_bool | assumption | exact evs_nil | exact op_iadd_int _ _ | exact op_isub_int _ _ | exact op_eq_int _ _ | exact op_lt_int _ _ | exact op_eq_str _ _) | ((with_reducible apply ev_name) <;> exact rfl) | (with_reducible first | apply ev_cmp | apply ev_call' | apply evs_cons' | apply test_cmp | apply ex_assign | apply ex_aug) | with_reducible exact nlo _ | with_reducible exact nhi h7 (by assumption) | ((first | with_reducible show (_ ≤ _) | with_reducible show (_ < _)); first | decide | lia) | apply test_cmp | exact rfl | exact fun _ => rfl | exact fun _ _ => rfl | decide | lia | (simp only [List.length_cons, List.length_nil, List.length_append, List.length_map, List.length_replicate]; lia) | (simp_all; done))) (decide_eq_false h0) exec_nil))))))) (by (repeat' first | exact Sub.nil _ | refine Sub.cons (by rfl) ?_)))
      · rw [if_neg h41]
        exact go _ (exec_post (exec_one (ex_if_f (by (repeat' first | (with_reducible first | exact ev_int | exact ev_str | exact ev_bool | assumption | exact evs_nil | exact op_iadd_int _ _ | exact op_isub_int _ _ | exact op_eq_int _ _ | exact op_lt_int _ _ | exact op_eq_str _ _) | ((with_reducible apply ev_name) <;> exact rfl) | (with_reducible first | apply ev_cmp | apply ev_call' | apply evs_cons' | apply test_cmp | apply ex_assign | apply ex_aug) | with_reducible exact nlo _ | with_reducible exact nhi h7 (by assumption) | ((first | with_reducible show (_ ≤ _) | with_reducible show (_ < _)); first | decide | lia) | apply test_cmp | exact rfl | exact fun _ => rfl | exact fun _ _ => rfl | decide | lia | (simp only [List.length_cons, List.length_nil, List.length_append, List.length_map, List.length_replicate]; lia) | (simp_all; done))) (by show ([ch] == [40]) = false; rw [hq]; exact decide_eq_false h40) (exec_one (ex_if_f (by (repeat' first | (with_reducible first | exact ev_int | exact ev_str | exact ev_bool | assumption | exact evs_nil | exact op_iadd_int _ _ | exact op_isub_int _ _ | exact op_eq_int _ _ | exact op_lt_int _ _ | exact op_eq_str _ _) | ((with_reducible apply ev_name) <;> exact rfl) | (with_reducible first | apply ev_cmp | apply ev_call' | apply evs_cons' | apply test_cmp | apply ex_assign | apply ex_aug) | with_reducible exact nlo _ | with_reducible exact nhi h7 (by assumption) | ((first | with_reducible show (_ ≤ _) | with_reducible show (_ < _)); first | decide | lia) | apply test_cmp | exact rfl | exact fun _ => rfl | exact fun _ _ => rfl | decide | lia | (simp only [List.length_cons, List.length_nil, List.length_append, List.length_map, List.length_replicate]; lia) | (simp_all; done))) (by show ([ch] == [41]) = false; rw [hq]; exact decide_eq_false h41) exec_nil)))) (by (repeat' first | exact Sub.nil _ | refine Sub.cons (by rfl) ?_)))

theorem op_check {a g sa : Addr} (fn : FnAt c a ["addr"] (fBody sCheck) (fScope sCheck)) (he : EscAt c g) (fs : FnAt c sa ["addr"] (fBody sStrip) (fScope sStrip)) (gs : GlobV c "_strip_quoted_realnames" (.ref sa)) (glen : GlobV c "len" (.builtin "len"))
    (addr : List Nat) (hl : addr.length < 1000000) (hb : ∀ ch ∈ addr, ch ≠ 92) : Op c 4 (fun vs => call (.ref a) vs) [.str addr] (.bool (checkF addr)) := by
  refine fn_ret fn (by rfl) (by rfl) ?_
  unfold checkF
  have hs := op_strip fs he glen addr hl hb
  have hsc := callee_fn fs
  refine ret_cons (by (repeat' first | (with_reducible first | exact ev_int | exact ev_str | exact ev_bool | assumption | exact evs_nil | exact op_iadd_int _ _ | exact op_isub_int _ _ | exact op_eq_int _ _ | exact op_lt_int _ _ | exact op_eq_str _ _) | ((with_reducible apply ev_name) <;> exact rfl) | (with_reducible first | apply ev_cmp | apply ev_call' | apply evs_cons' | apply test_cmp | apply ex_assign | apply ex_aug) | with_reducible exact nlo _ | with_reducible exact nhi h7 (by assumption) | ((first | with_reducible show (_ ≤ _) | with_reducible show (_ < _)); first | decide | lia) | apply test_cmp | exact rfl | exact fun _ => rfl | exact fun _ _ => rfl | decide | lia | (simp only [List.length_cons, List.length_nil, List.length_append, List.length_map, List.length_replicate]; lia) | (simp_all; done))) (ret_cons (by (repeat' first | (with_reducible first | exact ev_int | exact ev_str | exact ev_bool | assumption | exact evs_nil | exact op_iadd_int _ _ | exact op_isub_int _ _ | exact op_eq_int _ _ | exact op_lt_int _ _ | exact op_eq_str _ _) | ((with_reducible apply ev_name) <;> exact rfl) | (with_reducible first | apply ev_cmp | apply ev_call' | apply evs_cons' | apply test_cmp | apply ex_assign | apply ex_aug) | with_reducible exact nlo _ | with_reducible exact nhi h7 (by assumption) | ((first | with_reducible show (_ ≤ _) | with_reducible show (_ < _)); first | decide | lia) | apply test_cmp | exact rfl | exact fun _ => rfl | exact fun _ _ => rfl | decide | lia | (simp only [List.length_cons, List.length_nil, List.length_append, List.length_map, List.length_replicate]; lia) | (simp_all; done))) ?_)
  have hb2 : ∀ ch ∈ stripF addr, ch ≠ 92 := fun ch h => hb ch (stripF_mem addr ch h)
  rcases check_run (c := c) (d := 3) (stripF addr) (stripF addr) 0 0 with ⟨o', h1, h2⟩ | ⟨ρ', h1, h2⟩
  · rw [h2]
    exact ret_cons (ex_for_gen (l := stripF addr) (d := 1) he.fn esc_body he.blk rfl (by rfl) he.glob (by (repeat' first | (with_reducible first | exact ev_int | exact ev_str | exact ev_bool | assumption | exact evs_nil | exact op_iadd_int _ _ | exact op_isub_int _ _ | exact op_eq_int _ _ | exact op_lt_int _ _ | exact op_eq_str _ _) | ((with_reducible apply ev_name) <;> exact rfl) | (with_reducible first | apply ev_cmp | apply ev_call' | apply evs_cons' | apply test_cmp | apply ex_assign | apply ex_aug) | with_reducible exact nlo _ | with_reducible exact nhi h7 (by assumption) | ((first | with_reducible show (_ ≤ _) | with_reducible show (_ < _)); first | decide | lia) | apply test_cmp | exact rfl | exact fun _ => rfl | exact fun _ _ => rfl | decide | lia | (simp only [List.length_cons, List.length_nil, List.length_append, List.length_map, List.length_replicate]; lia) | (simp_all; done))) hb2 (by rfl) h1) (ret_ret (by (repeat' first | (with_reducible first | exact ev_int | exact ev_str | exact ev_bool | assumption | exact evs_nil | exact op_iadd_int _ _ | exact op_isub_int _ _ | exact op_eq_int _ _ | exact op_lt_int _ _ | exact op_eq_str _ _) | ((with_reducible apply ev_name) <;> exact rfl) | (with_reducible first | apply ev_cmp | apply ev_call' | apply evs_cons' | apply test_cmp | apply ex_assign | apply ex_aug) | with_reducible exact nlo _ | with_reducible exact nhi h7 (by assumption) | ((first | with_reducible show (_ ≤ _) | with_reducible show (_ < _)); first | decide | lia) | apply test_cmp | exact rfl | exact fun _ => rfl | exact fun _ _ => rfl | decide | lia | (simp only [List.length_cons, List.length_nil, List.length_append, List.length_map, List.length_replicate]; lia) | (simp_all; done))))
  · rw [h2]
    exact ret_stop (ex_for_gen (l := stripF addr) (d := 1) he.fn esc_body he.blk rfl (by rfl) he.glob (by (repeat' first | (with_reducible first | exact ev_int | exact ev_str | exact ev_bool | assumption | exact evs_nil | exact op_iadd_int _ _ | exact op_isub_int _ _ | exact op_eq_int _ _ | exact op_lt_int _ _ | exact op_eq_str _ _) | ((with_reducible apply ev_name) <;> exact rfl) | (with_reducible first | apply ev_cmp | apply ev_call' | apply evs_cons' | apply test_cmp | apply ex_assign | apply ex_aug) | with_reducible exact nlo _ | with_reducible exact nhi h7 (by assumption) | ((first | with_reducible show (_ ≤ _) | with_reducible show (_ < _)); first | decide | lia) | apply test_cmp | exact rfl | exact fun _ => rfl | exact fun _ _ => rfl | decide | lia | (simp only [List.length_cons, List.length_nil, List.length_append, List.length_map, List.length_replicate]; lia) | (simp_all; done))) hb2 (by rfl) h1)
end
end Mine
open PySem PySem.W PyProof.Rows
open PySem.Builtin PySem.Builtin.Str
set_option Elab.async false
set_option maxRecDepth 100000
set_option linter.unusedVariables false
set_option autoImplicit false
set_option maxHeartbeats 1000000
namespace Mine
section
variable {c : Cx} {d : Nat}

/- the class Whitespace -/
structure WsAt (c : Cx) (N : Addr) (mN : Str → Option Value) (fI : Addr) : Prop where
  hC : Cls c N mN
  glob : GlobV c "Whitespace" (.ref c.C)
  S : ∃ t, ClsAttr c "S" (.str (txt [32]) t)
  T : ∃ t, ClsAttr c "T" (.str (txt [9]) t)
  init : mN "__init__" = some (.ref fI)
  fi : ∃ oI, c.h1.get? fI = some oI ∧ oI.cls = .type "function"
  fn : FnAt c fI ["self", "ws"] (fBody sInit) (fScope sInit)
  len : GlobV c "len" (.builtin "len")
  tuple : GlobV c "tuple" (.type "tuple")
  raw : mN "raw" = none
  n : mN "n" = none
  nt : mN "nt" = none
  norm : mN "norm" = none
  simple : mN "is_simple" = none

structure WSt where
  count : List Nat
  b : Nat
  n : Nat
  nt : Nat
noncomputable def grow (l : List Nat) (b : Nat) : List Nat := if b ≥ l.length then l ++ List.replicate (b - l.length + 1) 0 else l
noncomputable def bump (l : List Nat) (b : Nat) : List Nat := (grow l b).set b ((grow l b)[b]?.getD 0 + 1)
noncomputable def wsGo : List Nat → WSt → WSt
  | [], s => s
  | ch :: r, s => if ch = 32 then wsGo r ⟨s.count, s.b + 1, s.n + 1, s.nt⟩ else if ch = 9 then wsGo r ⟨bump s.count s.b, 0, s.n + 1, s.nt + 1⟩ else s
noncomputable def wsF (ws : List Nat) : WSt := wsGo ws ⟨[], 0, 0, 0⟩
noncomputable def wsNames : List Str := ["raw", "n", "nt", "norm", "is_simple"]
noncomputable def normPV (s : WSt) : PV := .tup [.tup (intL s.count), .int s.b]
noncomputable def wsVals (ws : List Nat) : List PV := [.str ws, .int (wsF ws).n, .int (wsF ws).nt, normPV (wsF ws), .bool (decide ((wsF ws).count.length ≤ 1))]
noncomputable def wsObj (ws : List Nat) : PV := .obj wsNames (wsVals ws)

noncomputable abbrev bInit : Blk := fBlk sInit
noncomputable abbrev fInit : Stmt := nth (fBody sInit) 4
noncomputable abbrev rhoW (x : Addr) (ox : Obj) (ws : List Nat) (s : WSt) : Rho := [("self", .val (.raw x ox)), ("ws", .val (.str ws)), ("T", .val (.str [9])), ("S", .val (.str [32])), ("count", .own (intL s.count)), ("b", .val (.int s.b)), ("n", .val (.int s.n)), ("nt", .val (.int s.nt))]

theorem intL_len (l : List Nat) : (intL l).length = l.length := by simp [intL]
theorem grow_len (l : List Nat) (b : Nat) : b < (grow l b).length := by
  unfold grow
  split
  · simp; lia
  · lia
theorem grow_le (l : List Nat) (b : Nat) : (grow l b).length ≤ max l.length (b + 1) := by
  unfold grow
  split
  · simp; lia
  · lia
theorem bump_le (l : List Nat) (b : Nat) : (bump l b).length ≤ max l.length (b + 1) := by
  unfold bump; rw [List.length_set]; exact grow_le l b
theorem intL_at (l : List Nat) (b : Nat) (h : b < l.length) : itemAt (intL l) (b : Int) = some (.int ((l[b]?.getD 0 : Nat) : Int)) := by
  refine itemAt_pos (Int.natCast_nonneg _) ?_
  rw [show (b : Int).toNat = b from Int.toNat_natCast b]
  unfold intL
  rw [List.getElem?_map, List.getElem?_eq_getElem h]; rfl

theorem ws_turn (glen : GlobV c "len" (.builtin "len")) (x : Addr) (ox : Obj) (ws : List Nat) (s : WSt) (ch : Nat) (h1 : s.count.length < 1000000) (h2 : s.b < 1000000) (h32 : ch ≠ 32) (h9 : ch = 9) :
    Exec c bInit d (wBody fInit) (rset (rhoW x ox ws s) "ch" (.val (.str [ch]))) .next (rhoW x ox ws ⟨bump s.count s.b, 0, s.n + 1, s.nt + 1⟩) := by
  obtain ⟨count, b, n, nt⟩ := s
  simp only at h1 h2
  subst h9
  have hgl := intL_len count
  have hcl : ((intL count).length : Int) < 2 ^ 63 := by rw [hgl]; exact Int.lt_trans (Int.ofNat_lt.mpr h1) (by decide)
  have tail : Exec c bInit d ((wBody (nth (wElse (nth (wBody fInit) 0)) 0)).drop 3) [("self", .val (.raw x ox)), ("ws", .val (.str ws)), ("T", .val (.str [9])), ("S", .val (.str [32])), ("count", .own (intL (grow count b))), ("b", .val (.int b)), ("n", .val (.int ((n + 1 : Nat) : Int))), ("nt", .val (.int ((nt + 1 : Nat) : Int)))] .next
      (rhoW x ox ws ⟨bump count b, 0, n + 1, nt + 1⟩) := by
    have hb := grow_len count b
    have hg := grow_le count b
    have hi := intL_at _ _ hb
    have hgl2 := intL_len (grow count b)
    have hb63 : (b : Int) < 2 ^ 63 := Int.lt_trans (Int.ofNat_lt.mpr h2) (by decide)
    have e : intL (bump count b) = (intL (grow count b)).set b (.int (((grow count b)[b]?.getD 0 : Nat) + 1 : Int)) := by
      unfold bump intL
      rw [List.map_set]
      rfl
    unfold rhoW
    simp only
    rw [e]
    refine exec_post (exec_cons (ex_setitem (x := "count") (l := intL (grow count b)) (k := (b : Int)) (p := .int (((grow count b)[b]?.getD 0 : Nat) + 1 : Int)) rfl (ev_own (x := "count") (l := intL (grow count b)) rfl (by (repeat' first | (with_reducible first | exact ev_int | assumption | exact evs_nil | exact op_add_int _ _ | exact op_sub_int _ _ | exact op_le_int _ _ | exact op_ge_int _ _ | exact op_eq_str _ _ | exact callee_builtin _ | exact callee_type _) | ((with_reducible apply ev_name) <;> exact rfl) | (with_reducible first | apply ev_bin | apply ev_cmp | apply ev_sub | apply ev_list' | apply ev_tup' | apply ev_call' | apply evs_cons' | apply op_len_list | apply op_tuple | apply op_mul_list | apply test_cmp | apply ex_assign) | ((with_reducible first | apply item_list); (· first | assumption | rfl)) | with_reducible exact nlo _ | with_reducible exact nhi h7 (by assumption) | ((first | with_reducible show (_ ≤ _) | with_reducible show (_ < _)); first | decide | lia) | apply test_cmp | exact rfl | exact fun _ => rfl | exact fun _ _ => rfl | decide | lia | (simp only [List.length_cons, List.length_nil, List.length_append, List.length_map, List.length_replicate]; lia) | (simp_all; done))) rfl) (by (repeat' first | (with_reducible first | exact ev_int | assumption | exact evs_nil | exact op_add_int _ _ | exact op_sub_int _ _ | exact op_le_int _ _ | exact op_ge_int _ _ | exact op_eq_str _ _ | exact callee_builtin _ | exact callee_type _) | ((with_reducible apply ev_name) <;> exact rfl) | (with_reducible first | apply ev_bin | apply ev_cmp | apply ev_sub | apply ev_list' | apply ev_tup' | apply ev_call' | apply evs_cons' | apply op_len_list | apply op_tuple | apply op_mul_list | apply test_cmp | apply ex_assign) | ((with_reducible first | apply item_list); (· first | assumption | rfl)) | with_reducible exact nlo _ | with_reducible exact nhi h7 (by assumption) | ((first | with_reducible show (_ ≤ _) | with_reducible show (_ < _)); first | decide | lia) | apply test_cmp | exact rfl | exact fun _ => rfl | exact fun _ _ => rfl | decide | lia | (simp only [List.length_cons, List.length_nil, List.length_append, List.length_map, List.length_replicate]; lia) | (simp_all; done))) (by rfl) (Int.natCast_nonneg b) (by rw [hgl2]; exact Int.ofNat_lt.mpr hb) hb63 (by intro _ _; rfl)) (exec_cons (by (repeat' first | (with_reducible first | exact ev_int | assumption | exact evs_nil | exact op_add_int _ _ | exact op_sub_int _ _ | exact op_le_int _ _ | exact op_ge_int _ _ | exact op_eq_str _ _ | exact callee_builtin _ | exact callee_type _) | ((with_reducible apply ev_name) <;> exact rfl) | (with_reducible first | apply ev_bin | apply ev_cmp | apply ev_sub | apply ev_list' | apply ev_tup' | apply ev_call' | apply evs_cons' | apply op_len_list | apply op_tuple | apply op_mul_list | apply test_cmp | apply ex_assign) | ((with_reducible first | apply item_list); (· first | assumption | rfl)) | with_reducible exact nlo _ | with_reducible exact nhi h7 (by assumption) | ((first | with_reducible show (_ ≤ _) | with_reducible show (_ < _)); first | decide | lia) | apply test_cmp | exact rfl | exact fun _ => rfl | exact fun _ _ => rfl | decide | lia | (simp only [List.length_cons, List.length_nil, List.length_append, List.length_map, List.length_replicate]; lia) | (simp_all; done))) exec_nil)) (by (repeat' first | exact Sub.nil _ | refine Sub.cons (by rfl) ?_))
  refine exec_one (ex_if_f (by (repeat' first | (with_reducible first | exact ev_int | assumption | exact evs_nil | exact op_add_int _ _ | exact op_sub_int _ _ | exact op_le_int _ _ | exact op_ge_int _ _ | exact op_eq_str _ _ | exact callee_builtin _ | exact callee_type _) | ((with_reducible apply ev_name) <;> exact rfl) | (with_reducible first | apply ev_bin | apply ev_cmp | apply ev_sub | apply ev_list' | apply ev_tup' | apply ev_call' | apply evs_cons' | apply op_len_list | apply op_tuple | apply op_mul_list | apply test_cmp | apply ex_assign) | ((with_reducible first | apply item_list); (· first | assumption | rfl)) | with_reducible exact nlo _ | with_reducible exact nhi h7 (by assumption) | ((first | with_reducible show (_ ≤ _) | with_reducible show (_ < _)); first | decide | lia) | apply test_cmp | exact rfl | exact fun _ => rfl | exact fun _ _ => rfl | decide | lia | (simp only [List.length_cons, List.length_nil, List.length_append, List.length_map, List.length_replicate]; lia) | (simp_all; done))) (by rfl) (exec_one (ex_if_t (by (repeat' first | (with_reducible first | exact ev_int | assumption | exact evs_nil | exact op_add_int _ _ | exact op_sub_int _ _ | exact op_le_int _ _ | exact op_ge_int _ _ | exact op_eq_str _ _ | exact callee_builtin _ | exact callee_type _) | ((with_reducible apply ev_name) <;> exact rfl) | (with_reducible first | apply ev_bin | apply ev_cmp | apply ev_sub | apply ev_list' | apply ev_tup' | apply ev_call' | apply evs_cons' | apply op_len_list | apply op_tuple | apply op_mul_list | apply test_cmp | apply ex_assign) | ((with_reducible first | apply item_list); (· first | assumption | rfl)) | with_reducible exact nlo _ | with_reducible exact nhi h7 (by assumption) | ((first | with_reducible show (_ ≤ _) | with_reducible show (_ < _)); first | decide | lia) | apply test_cmp | exact rfl | exact fun _ => rfl | exact fun _ _ => rfl | decide | lia | (simp only [List.length_cons, List.length_nil, List.length_append, List.length_map, List.length_replicate]; lia) | (simp_all; done))) (by rfl) ?_)))
  refine exec_cons (by (repeat' first | (with_reducible first | exact ev_int | assumption | exact evs_nil | exact op_add_int _ _ | exact op_sub_int _ _ | exact op_le_int _ _ | exact op_ge_int _ _ | exact op_eq_str _ _ | exact callee_builtin _ | exact callee_type _) | ((with_reducible apply ev_name) <;> exact rfl) | (with_reducible first | apply ev_bin | apply ev_cmp | apply ev_sub | apply ev_list' | apply ev_tup' | apply ev_call' | apply evs_cons' | apply op_len_list | apply op_tuple | apply op_mul_list | apply test_cmp | apply ex_assign) | ((with_reducible first | apply item_list); (· first | assumption | rfl)) | with_reducible exact nlo _ | with_reducible exact nhi h7 (by assumption) | ((first | with_reducible show (_ ≤ _) | with_reducible show (_ < _)); first | decide | lia) | apply test_cmp | exact rfl | exact fun _ => rfl | exact fun _ _ => rfl | decide | lia | (simp only [List.length_cons, List.length_nil, List.length_append, List.length_map, List.length_replicate]; lia) | (simp_all; done))) (exec_cons (by (repeat' first | (with_reducible first | exact ev_int | assumption | exact evs_nil | exact op_add_int _ _ | exact op_sub_int _ _ | exact op_le_int _ _ | exact op_ge_int _ _ | exact op_eq_str _ _ | exact callee_builtin _ | exact callee_type _) | ((with_reducible apply ev_name) <;> exact rfl) | (with_reducible first | apply ev_bin | apply ev_cmp | apply ev_sub | apply ev_list' | apply ev_tup' | apply ev_call' | apply evs_cons' | apply op_len_list | apply op_tuple | apply op_mul_list | apply test_cmp | apply ex_assign) | ((with_reducible first | apply item_list); (· first | assumption | rfl)) | with_reducible exact nlo _ | with_reducible exact nhi h7 (by assumption) | ((first | with_reducible show (_ ≤ _) | with_reducible show (_ < _)); first | decide | lia) | apply test_cmp | exact rfl | exact fun _ => rfl | exact fun _ _ => rfl | decide | lia | (simp only [List.length_cons, List.length_nil, List.length_append, List.length_map, List.length_replicate]; lia) | (simp_all; done))) ?_)
  by_cases hb : b ≥ count.length
  · have e : intL (grow count b) = intL count ++ repL [.int 0] ((b : Int) - (count.length : Int) + 1) := by
      unfold grow intL repL
      rw [if_pos hb, List.map_append, show ((b : Int) - (count.length : Int) + 1).toNat = b - count.length + 1 by lia]
      generalize b - count.length + 1 = k
      congr 1
      induction k with
      | zero => rfl
      | succ k ih => rw [List.replicate_succ, List.replicate_succ, List.flatten_cons, ← ih]; rfl
    have hq : (repL [PV.int 0] ((b : Int) - (count.length : Int) + 1)).all flat = true := by
      rw [List.all_eq_true]; intro p hp
      unfold repL at hp
      obtain ⟨l, hl, hp⟩ := List.mem_flatten.mp hp
      rw [(List.mem_replicate.mp hl).2] at hp
      rw [List.mem_singleton.mp hp]; rfl
    have hql : (repL [PV.int 0] ((b : Int) - (count.length : Int) + 1)).length = b - count.length + 1 := by
      unfold repL; simp; lia
    rw [e] at tail
    refine exec_cons (ex_if_t (test_own (x := "count") (l := intL count) rfl (by (repeat' first | (with_reducible first | exact ev_int | assumption | exact evs_nil | exact op_add_int _ _ | exact op_sub_int _ _ | exact op_le_int _ _ | exact op_ge_int _ _ | exact op_eq_str _ _ | exact callee_builtin _ | exact callee_type _) | ((with_reducible apply ev_name) <;> exact rfl) | (with_reducible first | apply ev_bin | apply ev_cmp | apply ev_sub | apply ev_list' | apply ev_tup' | apply ev_call' | apply evs_cons' | apply op_len_list | apply op_tuple | apply op_mul_list | apply test_cmp | apply ex_assign) | ((with_reducible first | apply item_list); (· first | assumption | rfl)) | with_reducible exact nlo _ | with_reducible exact nhi h7 (by assumption) | ((first | with_reducible show (_ ≤ _) | with_reducible show (_ < _)); first | decide | lia) | apply test_cmp | exact rfl | exact fun _ => rfl | exact fun _ _ => rfl | decide | lia | (simp only [List.length_cons, List.length_nil, List.length_append, List.length_map, List.length_replicate]; lia) | (simp_all; done)))) (by rw [hgl]; exact decide_eq_true (by show (b : Int) ≥ (count.length : Int); lia)) (exec_one (ex_own (new_add_own (x := "count") (p := intL count) (q := repL [.int 0] ((b : Int) - (count.length : Int) + 1)) rfl (by rfl) (ev_eq (by (repeat' first | (with_reducible first | exact ev_int | assumption | exact evs_nil | exact op_add_int _ _ | exact op_sub_int _ _ | exact op_le_int _ _ | exact op_ge_int _ _ | exact op_eq_str _ _ | exact callee_builtin _ | exact callee_type _) | ((with_reducible apply ev_name) <;> exact rfl) | (with_reducible first | apply ev_bin | apply ev_cmp | apply ev_sub | apply ev_list' | apply ev_tup' | apply ev_call' | apply evs_cons' | apply op_len_list | apply op_tuple | apply op_mul_list | apply test_cmp | apply ex_assign) | ((with_reducible first | apply item_list); (· first | assumption | rfl)) | with_reducible exact nlo _ | with_reducible exact nhi h7 (by assumption) | ((first | with_reducible show (_ ≤ _) | with_reducible show (_ < _)); first | decide | lia) | apply test_cmp | exact rfl | exact fun _ => rfl | exact fun _ _ => rfl | decide | lia | (simp only [List.length_cons, List.length_nil, List.length_append, List.length_map, List.length_replicate]; lia) | (simp_all; done))) (by rw [hgl])) hq (by rw [hgl, hql]; lia)) (by rfl) (by intro _ _; rfl)))) ?_
    exact exec_pre (by (repeat' first | exact Sub.nil _ | refine Sub.cons (by rfl) ?_)) tail
  · have e : grow count b = count := by unfold grow; rw [if_neg hb]
    rw [e] at tail
    refine exec_cons (ex_if_f (test_own (x := "count") (l := intL count) rfl (by (repeat' first | (with_reducible first | exact ev_int | assumption | exact evs_nil | exact op_add_int _ _ | exact op_sub_int _ _ | exact op_le_int _ _ | exact op_ge_int _ _ | exact op_eq_str _ _ | exact callee_builtin _ | exact callee_type _) | ((with_reducible apply ev_name) <;> exact rfl) | (with_reducible first | apply ev_bin | apply ev_cmp | apply ev_sub | apply ev_list' | apply ev_tup' | apply ev_call' | apply evs_cons' | apply op_len_list | apply op_tuple | apply op_mul_list | apply test_cmp | apply ex_assign) | ((with_reducible first | apply item_list); (· first | assumption | rfl)) | with_reducible exact nlo _ | with_reducible exact nhi h7 (by assumption) | ((first | with_reducible show (_ ≤ _) | with_reducible show (_ < _)); first | decide | lia) | apply test_cmp | exact rfl | exact fun _ => rfl | exact fun _ _ => rfl | decide | lia | (simp only [List.length_cons, List.length_nil, List.length_append, List.length_map, List.length_replicate]; lia) | (simp_all; done)))) (by rw [hgl]; exact decide_eq_false (by show ¬ ((b : Int) ≥ (count.length : Int)); lia)) exec_nil) ?_
    exact exec_pre (by (repeat' first | exact Sub.nil _ | refine Sub.cons (by rfl) ?_)) tail

theorem ws_blank (x : Addr) (ox : Obj) (ws : List Nat) (s : WSt) (ch : Nat) (h32 : ch = 32) :
    Exec c bInit d (wBody fInit) (rset (rhoW x ox ws s) "ch" (.val (.str [ch]))) .next (rhoW x ox ws ⟨s.count, s.b + 1, s.n + 1, s.nt⟩) := by
  subst h32
  exact exec_post (exec_one (ex_if_t (by (repeat' first | (with_reducible first | exact ev_int | assumption | exact evs_nil | exact op_add_int _ _ | exact op_sub_int _ _ | exact op_le_int _ _ | exact op_ge_int _ _ | exact op_eq_str _ _ | exact callee_builtin _ | exact callee_type _) | ((with_reducible apply ev_name) <;> exact rfl) | (with_reducible first | apply ev_bin | apply ev_cmp | apply ev_sub | apply ev_list' | apply ev_tup' | apply ev_call' | apply evs_cons' | apply op_len_list | apply op_tuple | apply op_mul_list | apply test_cmp | apply ex_assign) | ((with_reducible first | apply item_list); (· first | assumption | rfl)) | with_reducible exact nlo _ | with_reducible exact nhi h7 (by assumption) | ((first | with_reducible show (_ ≤ _) | with_reducible show (_ < _)); first | decide | lia) | apply test_cmp | exact rfl | exact fun _ => rfl | exact fun _ _ => rfl | decide | lia | (simp only [List.length_cons, List.length_nil, List.length_append, List.length_map, List.length_replicate]; lia) | (simp_all; done))) (by rfl) (exec_cons (by (repeat' first | (with_reducible first | exact ev_int | assumption | exact evs_nil | exact op_add_int _ _ | exact op_sub_int _ _ | exact op_le_int _ _ | exact op_ge_int _ _ | exact op_eq_str _ _ | exact callee_builtin _ | exact callee_type _) | ((with_reducible apply ev_name) <;> exact rfl) | (with_reducible first | apply ev_bin | apply ev_cmp | apply ev_sub | apply ev_list' | apply ev_tup' | apply ev_call' | apply evs_cons' | apply op_len_list | apply op_tuple | apply op_mul_list | apply test_cmp | apply ex_assign) | ((with_reducible first | apply item_list); (· first | assumption | rfl)) | with_reducible exact nlo _ | with_reducible exact nhi h7 (by assumption) | ((first | with_reducible show (_ ≤ _) | with_reducible show (_ < _)); first | decide | lia) | apply test_cmp | exact rfl | exact fun _ => rfl | exact fun _ _ => rfl | decide | lia | (simp only [List.length_cons, List.length_nil, List.length_append, List.length_map, List.length_replicate]; lia) | (simp_all; done))) (exec_cons (by (repeat' first | (with_reducible first | exact ev_int | assumption | exact evs_nil | exact op_add_int _ _ | exact op_sub_int _ _ | exact op_le_int _ _ | exact op_ge_int _ _ | exact op_eq_str _ _ | exact callee_builtin _ | exact callee_type _) | ((with_reducible apply ev_name) <;> exact rfl) | (with_reducible first | apply ev_bin | apply ev_cmp | apply ev_sub | apply ev_list' | apply ev_tup' | apply ev_call' | apply evs_cons' | apply op_len_list | apply op_tuple | apply op_mul_list | apply test_cmp | apply ex_assign) | ((with_reducible first | apply item_list); (· first | assumption | rfl)) | with_reducible exact nlo _ | with_reducible exact nhi h7 (by assumption) | ((first | with_reducible show (_ ≤ _) | with_reducible show (_ < _)); first | decide | lia) | apply test_cmp | exact rfl | exact fun _ => rfl | exact fun _ _ => rfl | decide | lia | (simp only [List.length_cons, List.length_nil, List.length_append, List.length_map, List.length_replicate]; lia) | (simp_all; done))) exec_nil)))) (by (repeat' first | exact Sub.nil _ | refine Sub.cons (by rfl) ?_))
theorem ws_other (x : Addr) (ox : Obj) (ws : List Nat) (s : WSt) (ch : Nat) (h32 : ch ≠ 32) (h9 : ch ≠ 9) :
    Exec c bInit d (wBody fInit) (rset (rhoW x ox ws s) "ch" (.val (.str [ch]))) .brk (rhoW x ox ws s) := by
  have hq : ∀ a : Nat, ([ch] == [a]) = decide (ch = a) := fun a => by rw [Bool.eq_iff_iff]; simp
  exact exec_post (exec_stop (ex_if_f (by (repeat' first | (with_reducible first | exact ev_int | assumption | exact evs_nil | exact op_add_int _ _ | exact op_sub_int _ _ | exact op_le_int _ _ | exact op_ge_int _ _ | exact op_eq_str _ _ | exact callee_builtin _ | exact callee_type _) | ((with_reducible apply ev_name) <;> exact rfl) | (with_reducible first | apply ev_bin | apply ev_cmp | apply ev_sub | apply ev_list' | apply ev_tup' | apply ev_call' | apply evs_cons' | apply op_len_list | apply op_tuple | apply op_mul_list | apply test_cmp | apply ex_assign) | ((with_reducible first | apply item_list); (· first | assumption | rfl)) | with_reducible exact nlo _ | with_reducible exact nhi h7 (by assumption) | ((first | with_reducible show (_ ≤ _) | with_reducible show (_ < _)); first | decide | lia) | apply test_cmp | exact rfl | exact fun _ => rfl | exact fun _ _ => rfl | decide | lia | (simp only [List.length_cons, List.length_nil, List.length_append, List.length_map, List.length_replicate]; lia) | (simp_all; done))) (by rw [hq]; exact decide_eq_false h32) (exec_stop (ex_if_f (by (repeat' first | (with_reducible first | exact ev_int | assumption | exact evs_nil | exact op_add_int _ _ | exact op_sub_int _ _ | exact op_le_int _ _ | exact op_ge_int _ _ | exact op_eq_str _ _ | exact callee_builtin _ | exact callee_type _) | ((with_reducible apply ev_name) <;> exact rfl) | (with_reducible first | apply ev_bin | apply ev_cmp | apply ev_sub | apply ev_list' | apply ev_tup' | apply ev_call' | apply evs_cons' | apply op_len_list | apply op_tuple | apply op_mul_list | apply test_cmp | apply ex_assign) | ((with_reducible first | apply item_list); (· first | assumption | rfl)) | with_reducible exact nlo _ | with_reducible exact nhi h7 (by assumption) | ((first | with_reducible show (_ ≤ _) | with_reducible show (_ < _)); first | decide | lia) | apply test_cmp | exact rfl | exact fun _ => rfl | exact fun _ _ => rfl | decide | lia | (simp only [List.length_cons, List.length_nil, List.length_append, List.length_map, List.length_replicate]; lia) | (simp_all; done))) (by rw [hq]; exact decide_eq_false h9) (exec_stop ex_break (by intro h; cases h))) (by intro h; cases h))) (by intro h; cases h)) (by (repeat' first | exact Sub.nil _ | refine Sub.cons (by rfl) ?_))
theorem ws_for (glen : GlobV c "len" (.builtin "len")) (x : Addr) (ox : Obj) (ws : List Nat) : ∀ (r : List Nat) (s : WSt), s.count.length + r.length < 1000000 → s.b + r.length < 1000000 →
    ForEx c bInit d (wTarget fInit) (wBody fInit) (wElse fInit) (chars r) (rhoW x ox ws s) .next (rhoW x ox ws (wsGo r s))
  | [], s, _, _ => for_nil exec_nil
  | ch :: r, s, h1, h2 => by
    simp only [List.length_cons] at h1 h2
    rw [wsGo]
    by_cases h32 : ch = 32
    · rw [if_pos h32]
      exact for_cons (bind_name (by rfl)) (ws_blank x ox ws s ch h32) (ws_for glen x ox ws r _ (Nat.lt_of_succ_lt h1) (by show s.b + 1 + r.length < _; rw [Nat.add_right_comm]; exact h2))
    · rw [if_neg h32]
      by_cases h9 : ch = 9
      · rw [if_pos h9]
        refine for_cons (bind_name (by rfl)) (ws_turn glen x ox ws s ch (Nat.lt_of_le_of_lt (Nat.le_add_right _ _) h1) (Nat.lt_of_le_of_lt (Nat.le_add_right _ _) h2) h32 h9) (ws_for glen x ox ws r _ ?_ (Nat.lt_of_le_of_lt (Nat.add_le_add (Nat.zero_le _) (Nat.le_succ _)) h2))
        have := bump_le s.count s.b
        simp only
        lia
      · rw [if_neg h9]
        exact for_brk (bind_name (by rfl)) (ws_other x ox ws s ch h32 h9)
theorem wsGo_len : ∀ (r : List Nat) (s : WSt), (wsGo r s).count.length ≤ max s.count.length (s.b + r.length)
  | [], s => Nat.le_max_left _ _
  | ch :: r, s => by
    rw [wsGo]
    split
    · have h := wsGo_len r ⟨s.count, s.b + 1, s.n + 1, s.nt⟩
      have e : s.b + 1 + r.length = s.b + (ch :: r).length := Nat.add_right_comm _ _ _
      exact e ▸ h
    · split
      · have h := wsGo_len r ⟨bump s.count s.b, 0, s.n + 1, s.nt + 1⟩
        refine Nat.le_trans h (Nat.max_le.mpr ⟨Nat.le_trans (bump_le s.count s.b) (Nat.max_le.mpr ⟨Nat.le_max_left _ _, Nat.le_trans (Nat.add_le_add_left (Nat.succ_le_succ (Nat.zero_le _)) _) (Nat.le_max_right _ _)⟩), Nat.le_trans (Nat.add_le_add (Nat.zero_le _) (Nat.le_succ _)) (Nat.le_max_right _ _)⟩)
      · exact Nat.le_max_left _ _

theorem ws_init {N : Addr} {mN : Str → Option Value} {fI : Addr} (W : WsAt c N mN fI) (ws : List Nat) (hl : ws.length < 900000) (x : Addr) (ox : Obj) (dx : Addr) :
    RetI c bInit d x ox dx (fBody sInit) [("self", .val (.raw x ox)), ("ws", .val (.str ws))] [] (wsNames.zip (wsVals ws)) := by
  obtain ⟨tS, hS⟩ := W.S
  obtain ⟨tT, hT⟩ := W.T
  have gW := W.glob
  have glen := W.len
  have gtup := W.tuple
  have hcl := wsGo_len ws ⟨[], 0, 0, 0⟩
  simp only [List.length_nil, Nat.zero_add] at hcl
  have hB : ∀ a ∈ wsNames, typeLookup (.type "object") a = pure none := fun a ha => by
    simp only [wsNames, List.mem_cons, List.not_mem_nil, or_false] at ha
    rcases ha with rfl | rfl | rfl | rfl | rfl <;> (rw [typeLookup_type, builtinLookup_eq_fast]; kernel_rfl)
  refine reti_cons (exI_store W.hC rfl (by rfl) (by (repeat' first | (with_reducible first | exact ev_int | assumption | exact evs_nil | exact op_add_int _ _ | exact op_sub_int _ _ | exact op_le_int _ _ | exact op_ge_int _ _ | exact op_eq_str _ _ | exact callee_builtin _ | exact callee_type _) | ((with_reducible apply ev_name) <;> exact rfl) | (with_reducible first | apply ev_bin | apply ev_cmp | apply ev_sub | apply ev_list' | apply ev_tup' | apply ev_call' | apply evs_cons' | apply op_len_list | apply op_tuple | apply op_mul_list | apply test_cmp | apply ex_assign) | ((with_reducible first | apply item_list); (· first | assumption | rfl)) | with_reducible exact nlo _ | with_reducible exact nhi h7 (by assumption) | ((first | with_reducible show (_ ≤ _) | with_reducible show (_ < _)); first | decide | lia) | apply test_cmp | exact rfl | exact fun _ => rfl | exact fun _ _ => rfl | decide | lia | (simp only [List.length_cons, List.length_nil, List.length_append, List.length_map, List.length_replicate]; lia) | (simp_all; done))) W.raw (hB _ (by decide)) (by simp) (by decide) (by intro _ _; rfl)) ?_
  refine reti_lift (ex_assign_swapped (names := ["S", "T"]) (ps := [.str [32], .str [9]]) (ev_tup' (by decide) (evs_cons' rfl (ev_cattr (by rfl) gW hS) (evs_cons' rfl (ev_cattr (by rfl) gW hT) evs_nil))) rfl (by rfl) (by intro _ _; rfl) (by intro env he; cases env; cases he; rfl)) ?_
  refine reti_lift (ex_own (l := []) (new_list (ps := []) (by (repeat' first | (with_reducible first | exact ev_int | assumption | exact evs_nil | exact op_add_int _ _ | exact op_sub_int _ _ | exact op_le_int _ _ | exact op_ge_int _ _ | exact op_eq_str _ _ | exact callee_builtin _ | exact callee_type _) | ((with_reducible apply ev_name) <;> exact rfl) | (with_reducible first | apply ev_bin | apply ev_cmp | apply ev_sub | apply ev_list' | apply ev_tup' | apply ev_call' | apply evs_cons' | apply op_len_list | apply op_tuple | apply op_mul_list | apply test_cmp | apply ex_assign) | ((with_reducible first | apply item_list); (· first | assumption | rfl)) | with_reducible exact nlo _ | with_reducible exact nhi h7 (by assumption) | ((first | with_reducible show (_ ≤ _) | with_reducible show (_ < _)); first | decide | lia) | apply test_cmp | exact rfl | exact fun _ => rfl | exact fun _ _ => rfl | decide | lia | (simp only [List.length_cons, List.length_nil, List.length_append, List.length_map, List.length_replicate]; lia) | (simp_all; done))) (by decide)) (by rfl) (by intro _ _; rfl)) ?_
  refine reti_lift (ex_assign_all (by (repeat' first | (with_reducible first | exact ev_int | assumption | exact evs_nil | exact op_add_int _ _ | exact op_sub_int _ _ | exact op_le_int _ _ | exact op_ge_int _ _ | exact op_eq_str _ _ | exact callee_builtin _ | exact callee_type _) | ((with_reducible apply ev_name) <;> exact rfl) | (with_reducible first | apply ev_bin | apply ev_cmp | apply ev_sub | apply ev_list' | apply ev_tup' | apply ev_call' | apply evs_cons' | apply op_len_list | apply op_tuple | apply op_mul_list | apply test_cmp | apply ex_assign) | ((with_reducible first | apply item_list); (· first | assumption | rfl)) | with_reducible exact nlo _ | with_reducible exact nhi h7 (by assumption) | ((first | with_reducible show (_ ≤ _) | with_reducible show (_ < _)); first | decide | lia) | apply test_cmp | exact rfl | exact fun _ => rfl | exact fun _ _ => rfl | decide | lia | (simp only [List.length_cons, List.length_nil, List.length_append, List.length_map, List.length_replicate]; lia) | (simp_all; done))) (.cons (bind_name (by rfl)) (.cons (bind_name (by rfl)) (.one (bind_name (by rfl))))) (by rfl) (by intro _ _; rfl) (by intro _; rfl)) ?_
  have hfor := ws_for (d := d) glen x ox ws ws ⟨[], 0, 0, 0⟩ (by simp; lia) (by simp; lia)
  refine reti_pre (ρ₁ := rhoW x ox ws ⟨[], 0, 0, 0⟩) (by (repeat' first | exact Sub.nil _ | refine Sub.cons (by rfl) ?_)) ?_
  refine reti_cons (exI_for (p := .str ws) W.hC rfl (by rfl) rfl W.raw (hB _ (by decide)) trivial hfor) ?_
  unfold wsVals
  have ew : wsF ws = wsGo ws ⟨[], 0, 0, 0⟩ := rfl
  rw [ew]
  generalize wsGo ws ⟨[], 0, 0, 0⟩ = s at hcl ⊢
  have h1 : (intL s.count).length ≤ 16777216 := by rw [intL_len]; lia
  have h2 : ((intL s.count).length : Int) < 2 ^ 63 := by rw [intL_len]; lia
  refine reti_freeze (y := "count") rfl ?_
  refine reti_cons (exI_store W.hC rfl (by rfl) (by (repeat' first | (with_reducible first | exact ev_int | assumption | exact evs_nil | exact op_add_int _ _ | exact op_sub_int _ _ | exact op_le_int _ _ | exact op_ge_int _ _ | exact op_eq_str _ _ | exact callee_builtin _ | exact callee_type _) | ((with_reducible apply ev_name) <;> exact rfl) | (with_reducible first | apply ev_bin | apply ev_cmp | apply ev_sub | apply ev_list' | apply ev_tup' | apply ev_call' | apply evs_cons' | apply op_len_list | apply op_tuple | apply op_mul_list | apply test_cmp | apply ex_assign) | ((with_reducible first | apply item_list); (· first | assumption | rfl)) | with_reducible exact nlo _ | with_reducible exact nhi h7 (by assumption) | ((first | with_reducible show (_ ≤ _) | with_reducible show (_ < _)); first | decide | lia) | apply test_cmp | exact rfl | exact fun _ => rfl | exact fun _ _ => rfl | decide | lia | (simp only [List.length_cons, List.length_nil, List.length_append, List.length_map, List.length_replicate]; lia) | (simp_all; done))) W.n (hB _ (by decide)) (by exact (show ("n" : Str) ∉ (["raw"] : List Str) by decide)) (by show (1 : Nat) ≤ 1000; decide) (by intro _ _; rfl)) ?_
  refine reti_cons (exI_store W.hC rfl (by rfl) (by (repeat' first | (with_reducible first | exact ev_int | assumption | exact evs_nil | exact op_add_int _ _ | exact op_sub_int _ _ | exact op_le_int _ _ | exact op_ge_int _ _ | exact op_eq_str _ _ | exact callee_builtin _ | exact callee_type _) | ((with_reducible apply ev_name) <;> exact rfl) | (with_reducible first | apply ev_bin | apply ev_cmp | apply ev_sub | apply ev_list' | apply ev_tup' | apply ev_call' | apply evs_cons' | apply op_len_list | apply op_tuple | apply op_mul_list | apply test_cmp | apply ex_assign) | ((with_reducible first | apply item_list); (· first | assumption | rfl)) | with_reducible exact nlo _ | with_reducible exact nhi h7 (by assumption) | ((first | with_reducible show (_ ≤ _) | with_reducible show (_ < _)); first | decide | lia) | apply test_cmp | exact rfl | exact fun _ => rfl | exact fun _ _ => rfl | decide | lia | (simp only [List.length_cons, List.length_nil, List.length_append, List.length_map, List.length_replicate]; lia) | (simp_all; done))) W.nt (hB _ (by decide)) (by exact (show ("nt" : Str) ∉ (["raw", "n"] : List Str) by decide)) (by show (2 : Nat) ≤ 1000; decide) (by intro _ _; rfl)) ?_
  refine reti_cons (exI_store W.hC rfl (by rfl) (by (repeat' first | (with_reducible first | exact ev_int | assumption | exact evs_nil | exact op_add_int _ _ | exact op_sub_int _ _ | exact op_le_int _ _ | exact op_ge_int _ _ | exact op_eq_str _ _ | exact callee_builtin _ | exact callee_type _) | ((with_reducible apply ev_name) <;> exact rfl) | (with_reducible first | apply ev_bin | apply ev_cmp | apply ev_sub | apply ev_list' | apply ev_tup' | apply ev_call' | apply evs_cons' | apply op_len_list | apply op_tuple | apply op_mul_list | apply test_cmp | apply ex_assign) | ((with_reducible first | apply item_list); (· first | assumption | rfl)) | with_reducible exact nlo _ | with_reducible exact nhi h7 (by assumption) | ((first | with_reducible show (_ ≤ _) | with_reducible show (_ < _)); first | decide | lia) | apply test_cmp | exact rfl | exact fun _ => rfl | exact fun _ _ => rfl | decide | lia | (simp only [List.length_cons, List.length_nil, List.length_append, List.length_map, List.length_replicate]; lia) | (simp_all; done))) W.norm (hB _ (by decide)) (by exact (show ("norm" : Str) ∉ (["raw", "n", "nt"] : List Str) by decide)) (by show (3 : Nat) ≤ 1000; decide) (by intro _ _; rfl)) ?_
  have e : decide (s.count.length ≤ 1) = decide (((intL s.count).length : Int) ≤ 1) := by rw [intL_len]; exact decide_eq_decide.mpr (by lia)
  rw [e]
  exact reti_cons (exI_store W.hC rfl (by rfl) (by (repeat' first | (with_reducible first | exact ev_int | assumption | exact evs_nil | exact op_add_int _ _ | exact op_sub_int _ _ | exact op_le_int _ _ | exact op_ge_int _ _ | exact op_eq_str _ _ | exact callee_builtin _ | exact callee_type _) | ((with_reducible apply ev_name) <;> exact rfl) | (with_reducible first | apply ev_bin | apply ev_cmp | apply ev_sub | apply ev_list' | apply ev_tup' | apply ev_call' | apply evs_cons' | apply op_len_list | apply op_tuple | apply op_mul_list | apply test_cmp | apply ex_assign) | ((with_reducible first | apply item_list); (· first | assumption | rfl)) | with_reducible exact nlo _ | with_reducible exact nhi h7 (by assumption) | ((first | with_reducible show (_ ≤ _) | with_reducible show (_ < _)); first | decide | lia) | apply test_cmp | exact rfl | exact fun _ => rfl | exact fun _ _ => rfl | decide | lia | (simp only [List.length_cons, List.length_nil, List.length_append, List.length_map, List.length_replicate]; lia) | (simp_all; done))) W.simple (hB _ (by decide)) (by exact (show ("is_simple" : Str) ∉ (["raw", "n", "nt", "norm"] : List Str) by decide)) (by show (4 : Nat) ≤ 1000; decide) (by intro _ _; rfl)) reti_nil
end
end Mine
open PySem PySem.W PyProof.Rows
open PySem.Builtin PySem.Builtin.Str
set_option Elab.async false
set_option maxRecDepth 100000
set_option linter.unusedVariables false
set_option autoImplicit false
set_option maxHeartbeats 1000000
namespace Mine
section
variable {c : Cx} {b : Blk} {d : Nat} {ρ : Rho} {N : Addr} {mN : Str → Option Value} {fI : Addr}

theorem ev_ws {pf pos : Pos} {e : Expr} {ws : List Nat} (W : WsAt c N mN fI) (hk : isGlob b "Whitespace" = true) (he : isStar e = false) (hl : ws.length < 900000) (h1 : Eval c b (d + 2) e ρ (.str ws)) :
    Eval c b (d + 2) (.Call (.Name "Whitespace" pf) [e] [] pos) ρ (wsObj ws) := by
  obtain ⟨oI, h2, h3⟩ := W.fi
  exact ev_new (I := wsNames.zip (wsVals ws)) W.hC W.init h2 h3 W.fn (by rfl) hk W.glob h1 he fun x ox dx => (ws_init W ws hl x ox dx).toNil

theorem no_obj_attr {a : Str} (h : a ∈ wsNames) : typeLookup (.type "object") a = pure none := by
  simp only [wsNames, List.mem_cons, List.not_mem_nil, or_false] at h
  rcases h with rfl | rfl | rfl | rfl | rfl <;> (rw [typeLookup_type, builtinLookup_eq_fast]; kernel_rfl)
theorem ev_norm {n : Str} {np pos : Pos} {ws : List Nat} (W : WsAt c N mN fI) (h0 : Eval c b d (.Name n np) ρ (wsObj ws)) : Eval c b d (.Attribute (.Name n np) "norm" pos) ρ (normPV (wsF ws)) := ev_attr W.hC h0 rfl W.norm (no_obj_attr (by decide))
theorem ev_nt {n : Str} {np pos : Pos} {ws : List Nat} (W : WsAt c N mN fI) (h0 : Eval c b d (.Name n np) ρ (wsObj ws)) : Eval c b d (.Attribute (.Name n np) "nt" pos) ρ (.int (wsF ws).nt) := ev_attr W.hC h0 rfl W.nt (no_obj_attr (by decide))
end
section
variable {c : Cx} {d : Nat} {N : Addr} {mN : Str → Option Value} {fI : Addr}

noncomputable def cntAt (count : List Nat) (i : Int) : Int := ((count[i.toNat]?.getD 0 : Nat) : Int)
noncomputable def ilGo (count : List Nat) (ts : Int) : Int → Nat → Int → Int
  | _, 0, il => il
  | i, n + 1, il => ilGo count ts (i + 1) n (il + i / ts * cntAt count i)
noncomputable def indentF (s : WSt) (ts : Int) : Int := s.b + ts * (ilGo s.count ts ts (s.count.length - ts).toNat 0 + s.nt)

noncomputable abbrev bIndent : Blk := fBlk sIndent
noncomputable abbrev fIndent : Stmt := nth (fBody sIndent) 2
noncomputable abbrev rhoI (self : PV) (count : List Nat) (tr ts il : Int) : Rho := [("self", .val self), ("tabsize", .val (.int ts)), ("count", .val (.tup (intL count))), ("trailing", .val (.int tr)), ("il", .val (.int il))]
theorem indent_for (self : PV) (count : List Nat) (tr ts : Int) (h1 : 1 ≤ ts) (h2 : ts < 1000000) (hl : count.length < 1000000) : ∀ (n : Nat) (i il : Int), 0 ≤ i → i + n ≤ count.length ∨ n = 0 →
    ForEx c bIndent d (wTarget fIndent) (wBody fIndent) (wElse fIndent) (rngPs i n) (rhoI self count tr ts il) .next (rhoI self count tr ts (ilGo count ts i n il))
  | 0, i, il, _, _ => for_nil exec_nil
  | n + 1, i, il, hi, hn => by
    have hn' : i + ((n + 1 : Nat) : Int) ≤ count.length := hn.resolve_right (Nat.succ_ne_zero n)
    have hic : i < count.length := by clear h1 h2 hl hn; lia
    have hit : itemAt (intL count) i = some (.int (cntAt count i)) := by
      have := intL_at count i.toNat (Int.ofNat_lt.mp (by rw [Int.toNat_of_nonneg hi]; exact hic))
      rw [Int.toNat_of_nonneg hi] at this
      exact this
    have hts : 0 < ts := Int.lt_of_lt_of_le (by decide) h1
    have hts2 : ts < 1073741824 := Int.lt_trans h2 (by decide)
    have hd1 : 0 ≤ i / ts := Int.ediv_nonneg hi (Int.le_of_lt hts)
    have hd2 : i / ts ≤ i := Int.ediv_le_self _ hi
    have hi6 : i < 1000000 := Int.lt_trans hic (Int.ofNat_lt.mpr hl)
    have hi63 : i < 2 ^ 63 := Int.lt_trans hi6 (by decide)
    have hil : -(2 ^ 63) ≤ i := Int.le_trans (by decide) hi
    have hm1 : -(2 ^ 64) < i / ts := Int.lt_of_lt_of_le (by decide) hd1
    have hm2 : i / ts < 2 ^ 64 := Int.lt_trans (Int.lt_of_le_of_lt hd2 hi6) (by decide)
    rw [rngPs, ilGo]
    refine for_cons (bind_name (by rfl)) (exec_post (exec_one (by (repeat' first | (with_reducible first | exact ev_int | assumption | exact evs_nil | exact op_add_int _ _ | exact op_range2 _ _ | exact callee_builtin _ | exact callee_type _) | ((with_reducible apply ev_name) <;> exact rfl) | (with_reducible first | apply ev_norm | apply ev_nt | apply ev_bin | apply ev_sub | apply ev_call' | apply evs_cons' | apply op_len_tup | apply op_div_pos | apply ex_assign | apply op_mul_l) | ((with_reducible first | apply item_tup); (· first | assumption | rfl)) | with_reducible exact nlo _ | with_reducible exact nhi h7 (by assumption) | ((first | with_reducible show (_ ≤ _) | with_reducible show (_ < _)); first | decide | lia) | apply test_cmp | exact rfl | exact fun _ => rfl | exact fun _ _ => rfl | decide | lia | (simp only [List.length_cons, List.length_nil, List.length_append, List.length_map, List.length_replicate]; lia) | (simp_all; done)))) (by (repeat' first | exact Sub.nil _ | refine Sub.cons (by rfl) ?_))) (indent_for self count tr ts h1 h2 hl n (i + 1) _ (Int.le_add_one hi) (.inl ?_))
    rw [Int.add_assoc, Int.add_comm 1]; exact hn'

theorem op_indent {f : Addr} (W : WsAt c N mN fI) (fn : FnAt c f ["self", "tabsize"] (fBody sIndent) (fScope sIndent)) (grg : GlobV c "range" (.type "range")) (ws : List Nat) (hl : ws.length < 900000) (ts : Int) (h1 : 1 ≤ ts) (h2 : ts < 1000000) :
    Op c 1 (fun vs => call (.ref f) vs) [wsObj ws, .int ts] (.int (indentF (wsF ws) ts)) := by
  refine fn_ret fn (by rfl) (by rfl) ?_
  have glen := W.len
  have hcl := wsGo_len ws ⟨[], 0, 0, 0⟩
  simp only [List.length_nil, Nat.zero_add] at hcl
  have ew : wsF ws = wsGo ws ⟨[], 0, 0, 0⟩ := rfl
  rw [← ew] at hcl
  unfold indentF
  generalize hs : wsF ws = s at hcl ⊢
  have hn : ∀ b ρ, Eval c b 0 (.Name "self" ⟨0,0,0,0⟩) ρ (wsObj ws) → True := fun _ _ _ => trivial
  refine ret_cons (ex_assign_all (p := .tup [.tup (intL s.count), .int s.b]) (ev_eq (by (repeat' first | (with_reducible first | exact ev_int | assumption | exact evs_nil | exact op_add_int _ _ | exact op_range2 _ _ | exact callee_builtin _ | exact callee_type _) | ((with_reducible apply ev_name) <;> exact rfl) | (with_reducible first | apply ev_norm | apply ev_nt | apply ev_bin | apply ev_sub | apply ev_call' | apply evs_cons' | apply op_len_tup | apply op_div_pos | apply ex_assign | apply op_mul_l) | ((with_reducible first | apply item_tup); (· first | assumption | rfl)) | with_reducible exact nlo _ | with_reducible exact nhi h7 (by assumption) | ((first | with_reducible show (_ ≤ _) | with_reducible show (_ < _)); first | decide | lia) | apply test_cmp | exact rfl | exact fun _ => rfl | exact fun _ _ => rfl | decide | lia | (simp only [List.length_cons, List.length_nil, List.length_append, List.length_map, List.length_replicate]; lia) | (simp_all; done))) (by rw [hs]; rfl)) (.one (bind_tup (binds_cons (bind_name (by rfl)) (binds_cons (bind_name (by rfl)) binds_nil)) (by rfl) (by rfl))) (by rfl) (by intro _ _; rfl) (by intro _; rfl)) ?_
  refine ret_cons (by (repeat' first | (with_reducible first | exact ev_int | assumption | exact evs_nil | exact op_add_int _ _ | exact op_range2 _ _ | exact callee_builtin _ | exact callee_type _) | ((with_reducible apply ev_name) <;> exact rfl) | (with_reducible first | apply ev_norm | apply ev_nt | apply ev_bin | apply ev_sub | apply ev_call' | apply evs_cons' | apply op_len_tup | apply op_div_pos | apply ex_assign | apply op_mul_l) | ((with_reducible first | apply item_tup); (· first | assumption | rfl)) | with_reducible exact nlo _ | with_reducible exact nhi h7 (by assumption) | ((first | with_reducible show (_ ≤ _) | with_reducible show (_ < _)); first | decide | lia) | apply test_cmp | exact rfl | exact fun _ => rfl | exact fun _ _ => rfl | decide | lia | (simp only [List.length_cons, List.length_nil, List.length_append, List.length_map, List.length_replicate]; lia) | (simp_all; done))) ?_
  have hlc : ((intL s.count).length : Int) < 2 ^ 63 := by rw [intL_len]; lia
  have hf := indent_for (c := c) (d := 0) (wsObj ws) s.count s.b ts h1 h2 (by lia) (s.count.length - ts).toNat ts 0 (by lia) (by lia)
  refine ret_cons (ex_for (p := .rng ts s.count.length) (ev_eq (by (repeat' first | (with_reducible first | exact ev_int | assumption | exact evs_nil | exact op_add_int _ _ | exact op_range2 _ _ | exact callee_builtin _ | exact callee_type _) | ((with_reducible apply ev_name) <;> exact rfl) | (with_reducible first | apply ev_norm | apply ev_nt | apply ev_bin | apply ev_sub | apply ev_call' | apply evs_cons' | apply op_len_tup | apply op_div_pos | apply ex_assign | apply op_mul_l) | ((with_reducible first | apply item_tup); (· first | assumption | rfl)) | with_reducible exact nlo _ | with_reducible exact nhi h7 (by assumption) | ((first | with_reducible show (_ ≤ _) | with_reducible show (_ < _)); first | decide | lia) | apply test_cmp | exact rfl | exact fun _ => rfl | exact fun _ _ => rfl | decide | lia | (simp only [List.length_cons, List.length_nil, List.length_append, List.length_map, List.length_replicate]; lia) | (simp_all; done))) (by rw [intL_len])) (by show _ ∧ _; lia) hf (by intro _ _; rfl)) ?_
  have e : ∀ X : Int, s.b + ts * (X + (s.nt : Int)) = s.b + ts * (X + ((wsF ws).nt : Int)) := fun X => by rw [hs]
  rw [e]
  refine ret_ret ?_
  (repeat' first | (with_reducible first | exact ev_int | assumption | exact evs_nil | exact op_add_int _ _ | exact op_range2 _ _ | exact callee_builtin _ | exact callee_type _) | ((with_reducible apply ev_name) <;> exact rfl) | (with_reducible first | apply ev_norm | apply ev_nt | apply ev_bin | apply ev_sub | apply ev_call' | apply evs_cons' | apply op_len_tup | apply op_div_pos | apply ex_assign | apply op_mul_l) | ((with_reducible first | apply item_tup); (· first | assumption | rfl)) | with_reducible exact nlo _ | with_reducible exact nhi h7 (by assumption) | ((first | with_reducible show (_ ≤ _) | with_reducible show (_ < _)); first | decide | lia) | apply test_cmp | exact rfl | exact fun _ => rfl | exact fun _ _ => rfl | decide | lia | (simp only [List.length_cons, List.length_nil, List.length_append, List.length_map, List.length_replicate]; lia) | (simp_all; done))
end
end Mine
open PySem PySem.W PyProof.Rows
open PySem.Builtin PySem.Builtin.Str
set_option Elab.async false
set_option maxRecDepth 100000
set_option linter.unusedVariables false
set_option autoImplicit false
set_option maxHeartbeats 1000000
namespace Mine
section
variable {c : Cx} {d : Nat} {N : Addr} {mN : Str → Option Value} {fI : Addr}

/- equal -/
noncomputable def eqS (s t : WSt) : Bool := (s.count == t.count) && (s.b == t.b)
theorem peq_tup (l m : List PV) : peq (.tup l) (.tup m) = peq (.list l) (.list m) := by simp [peq, pd, PyData.eqv]
theorem peq_norm (s t : WSt) : peq (normPV s) (normPV t) = eqS s t := by
  have hb : peq (.int (s.b : Int)) (.int (t.b : Int)) = (s.b == t.b) := by
    simp only [peq, pd, PyData.eqv]
    rw [Bool.eq_iff_iff, beq_iff_eq, beq_iff_eq]; lia
  have hn : peq (.list []) (.list []) = true := by decide
  rw [normPV, normPV, peq_tup, peq_cons_list, peq_cons_list, peq_tup, peq_intL, hb, hn, Bool.and_true]; rfl
theorem num_norm (s : WSt) : numD 8 (normPV s) = true := by
  show (List.all _ _) = true
  rw [List.all_cons, List.all_cons, List.all_nil, Bool.and_true]
  show ((intL s.count).all (numD 6) && true) = true
  rw [numD_intL]; rfl
theorem op_equal {f : Addr} (W : WsAt c N mN fI) (fn : FnAt c f ["self", "other"] (fBody sEqual) (fScope sEqual)) (a b : List Nat) :
    Op c 1 (fun vs => call (.ref f) vs) [wsObj a, wsObj b] (.bool (eqS (wsF a) (wsF b))) := by
  refine fn_ret fn (by rfl) (by rfl) ?_
  rw [← peq_norm]
  exact ret_ret (ev_cmp (by (repeat' first | (with_reducible first | exact ev_int | assumption | exact evs_nil | exact op_sub_int _ _ | exact op_max2 _ _ | exact callee_builtin _) | ((with_reducible apply ev_name) <;> exact rfl) | (with_reducible first | apply ev_norm | apply ev_bin | apply ev_cmp | apply ev_call' | apply evs_cons' | apply op_len_tup) | with_reducible exact nlo _ | with_reducible exact nhi h7 (by assumption) | ((first | with_reducible show (_ ≤ _) | with_reducible show (_ < _)); first | decide | lia) | apply test_cmp | exact rfl | exact fun _ => rfl | exact fun _ _ => rfl | decide | lia | (simp only [List.length_cons, List.length_nil, List.length_append, List.length_map, List.length_replicate]; lia) | (simp_all; done))) (by (repeat' first | (with_reducible first | exact ev_int | assumption | exact evs_nil | exact op_sub_int _ _ | exact op_max2 _ _ | exact callee_builtin _) | ((with_reducible apply ev_name) <;> exact rfl) | (with_reducible first | apply ev_norm | apply ev_bin | apply ev_cmp | apply ev_call' | apply evs_cons' | apply op_len_tup) | with_reducible exact nlo _ | with_reducible exact nhi h7 (by assumption) | ((first | with_reducible show (_ ≤ _) | with_reducible show (_ < _)); first | decide | lia) | apply test_cmp | exact rfl | exact fun _ => rfl | exact fun _ _ => rfl | decide | lia | (simp only [List.length_cons, List.length_nil, List.length_append, List.length_map, List.length_replicate]; lia) | (simp_all; done))) (op_eq_num _ _ (num_norm _) (num_norm _)) (by rfl))

/- longest_run_of_spaces -/
noncomputable def longF (s : WSt) : Int := if (s.b : Int) > (s.count.length : Int) - 1 then s.b else (s.count.length : Int) - 1
theorem op_long {f : Addr} (W : WsAt c N mN fI) (fn : FnAt c f ["self"] (fBody sLong) (fScope sLong)) (gmax : GlobV c "max" (.builtin "max")) (a : List Nat) (hl : a.length < 900000) :
    Op c 1 (fun vs => call (.ref f) vs) [wsObj a] (.int (longF (wsF a))) := by
  refine fn_ret fn (by rfl) (by rfl) ?_
  have glen := W.len
  have hcl := wsGo_len a ⟨[], 0, 0, 0⟩
  simp only [List.length_nil, Nat.zero_add] at hcl
  have ew : wsF a = wsGo a ⟨[], 0, 0, 0⟩ := rfl
  rw [← ew] at hcl
  unfold longF
  generalize hs : wsF a = s at hcl ⊢
  refine ret_cons (ex_assign_all (p := .tup [.tup (intL s.count), .int s.b]) (ev_eq (by (repeat' first | (with_reducible first | exact ev_int | assumption | exact evs_nil | exact op_sub_int _ _ | exact op_max2 _ _ | exact callee_builtin _) | ((with_reducible apply ev_name) <;> exact rfl) | (with_reducible first | apply ev_norm | apply ev_bin | apply ev_cmp | apply ev_call' | apply evs_cons' | apply op_len_tup) | with_reducible exact nlo _ | with_reducible exact nhi h7 (by assumption) | ((first | with_reducible show (_ ≤ _) | with_reducible show (_ < _)); first | decide | lia) | apply test_cmp | exact rfl | exact fun _ => rfl | exact fun _ _ => rfl | decide | lia | (simp only [List.length_cons, List.length_nil, List.length_append, List.length_map, List.length_replicate]; lia) | (simp_all; done))) (by rw [hs]; rfl)) (.one (bind_tup (binds_cons (bind_name (by rfl)) (binds_cons (bind_name (by rfl)) binds_nil)) (by rfl) (by rfl))) (by rfl) (by intro _ _; rfl) (by intro _; rfl)) ?_
  have hlc : ((intL s.count).length : Int) < 2 ^ 63 := by rw [intL_len]; lia
  exact ret_ret (ev_eq (by (repeat' first | (with_reducible first | exact ev_int | assumption | exact evs_nil | exact op_sub_int _ _ | exact op_max2 _ _ | exact callee_builtin _) | ((with_reducible apply ev_name) <;> exact rfl) | (with_reducible first | apply ev_norm | apply ev_bin | apply ev_cmp | apply ev_call' | apply evs_cons' | apply op_len_tup) | with_reducible exact nlo _ | with_reducible exact nhi h7 (by assumption) | ((first | with_reducible show (_ ≤ _) | with_reducible show (_ < _)); first | decide | lia) | apply test_cmp | exact rfl | exact fun _ => rfl | exact fun _ _ => rfl | decide | lia | (simp only [List.length_cons, List.length_nil, List.length_append, List.length_map, List.length_replicate]; lia) | (simp_all; done))) (by rw [intL_len]))

theorem long_lt (a : List Nat) (hl : a.length < 900000) : longF (wsF a) < 900001 ∧ -1 ≤ longF (wsF a) := by
  have hcl := wsGo_len a ⟨[], 0, 0, 0⟩
  have hb : ∀ (r : List Nat) (s : WSt), (wsGo r s).b ≤ s.b + r.length := by
    intro r
    induction r with
    | nil => intro s; exact Nat.le_add_right _ _
    | cons ch r ih =>
      intro s
      rw [wsGo]
      split
      · have e : s.b + 1 + r.length = s.b + (ch :: r).length := Nat.add_right_comm _ _ _
        exact e ▸ ih ⟨s.count, s.b + 1, s.n + 1, s.nt⟩
      · split
        · exact Nat.le_trans (ih ⟨bump s.count s.b, 0, s.n + 1, s.nt + 1⟩) (Nat.add_le_add (Nat.zero_le _) (Nat.le_succ _))
        · exact Nat.le_add_right _ _
  have := hb a ⟨[], 0, 0, 0⟩
  simp only [List.length_nil, Nat.zero_add] at hcl this
  unfold longF wsF
  split <;> lia

end
end Mine
open PySem PySem.W PyProof.Rows
open PySem.Builtin PySem.Builtin.Str
set_option Elab.async false
set_option maxRecDepth 100000
set_option linter.unusedVariables false
set_option autoImplicit false
set_option maxHeartbeats 1000000
namespace Mine
section
variable {c : Cx} {d : Nat} {N : Addr} {mN : Str → Option Value} {fI : Addr}

-- not_equal_witness
noncomputable def witGo (s t : WSt) : Int → Nat → List (Int × Int × Int)
  | _, 0 => []
  | ts, n + 1 => (if indentF s ts = indentF t ts then [] else [(ts, indentF s ts, indentF t ts)]) ++ witGo s t (ts + 1) n
noncomputable def triPV (l : List (Int × Int × Int)) : List PV := l.map fun p => .tup [.int p.1, .int p.2.1, .int p.2.2]
noncomputable def maxF (a b : Int) : Int := if b > a then b else a
noncomputable def witF (s t : WSt) : List (Int × Int × Int) := witGo s t 1 (maxF (longF s) (longF t) + 1).toNat
noncomputable abbrev bWit : Blk := fBlk sWitness
noncomputable abbrev fWit : Stmt := nth (fBody sWitness) 2
noncomputable abbrev rhoWi (a b : List Nat) (n : Int) (l : List (Int × Int × Int)) : Rho := [("self", .val (wsObj a)), ("other", .val (wsObj b)), ("n", .val (.int n)), ("a", .own (triPV l))]
theorem triPV_len (l : List (Int × Int × Int)) : (triPV l).length = l.length := by unfold triPV; rw [List.length_map]
theorem wit_for {fId : Addr} (W : WsAt c N mN fI) (mI : MethAt c mN "indent_level" fId) (hI : ∀ (ws : List Nat) (ts : Int), ws.length < 900000 → 1 ≤ ts → ts < 1000000 → Op c 1 (fun vs => call (.ref fId) vs) [wsObj ws, .int ts] (.int (indentF (wsF ws) ts)))
    (a b : List Nat) (ha : a.length < 900000) (hb : b.length < 900000) (k : Int) : ∀ (n : Nat) (ts : Int) (l : List (Int × Int × Int)), 1 ≤ ts → ts + n < 1000000 → l.length + n < 1000000 →
    ForEx c bWit 1 (wTarget fWit) (wBody fWit) (wElse fWit) (rngPs ts n) (rhoWi a b k l) .next (rhoWi a b k (l ++ witGo (wsF a) (wsF b) ts n))
  | 0, ts, l, _, _, _ => by rw [witGo, List.append_nil]; exact for_nil exec_nil
  | n + 1, ts, l, h1, h2, h3 => by
    have o1 := hI a ts ha h1 (by lia)
    have o2 := hI b ts hb h1 (by lia)
    have ht : Test c bWit 1 (wTest (nth (wBody fWit) 0)) (rset (rhoWi a b k l) "ts" (.val (.int ts))) (indentF (wsF a) ts != indentF (wsF b) ts) := by
      refine test_cmp (ev_methO' (ps := [.int ts]) W.hC mI (by decide) (by rfl) (by decide) (ev_name (by rfl) (by rfl)) (by (repeat' first | (with_reducible first | exact ev_int | assumption | exact evs_nil | exact op_add_int _ _ | exact op_ne_int _ _ | exact op_range2 _ _ | exact op_max2 _ _ | exact callee_builtin _ | exact callee_type _) | ((with_reducible apply ev_name) <;> exact rfl) | (with_reducible first | apply ev_bin | apply ev_tup' | apply ev_call' | apply evs_cons' | apply test_cmp | apply ex_assign) | with_reducible exact nlo _ | with_reducible exact nhi h7 (by assumption) | ((first | with_reducible show (_ ≤ _) | with_reducible show (_ < _)); first | decide | lia) | apply test_cmp | exact rfl | exact fun _ => rfl | exact fun _ _ => rfl | decide | lia | (simp only [List.length_cons, List.length_nil, List.length_append, List.length_map, List.length_replicate]; lia) | (simp_all; done))) o1 (by intro _; rfl) (by rfl)) (ev_methO' (ps := [.int ts]) W.hC mI (by decide) (by rfl) (by decide) (ev_name (by rfl) (by rfl)) (by (repeat' first | (with_reducible first | exact ev_int | assumption | exact evs_nil | exact op_add_int _ _ | exact op_ne_int _ _ | exact op_range2 _ _ | exact op_max2 _ _ | exact callee_builtin _ | exact callee_type _) | ((with_reducible apply ev_name) <;> exact rfl) | (with_reducible first | apply ev_bin | apply ev_tup' | apply ev_call' | apply evs_cons' | apply test_cmp | apply ex_assign) | with_reducible exact nlo _ | with_reducible exact nhi h7 (by assumption) | ((first | with_reducible show (_ ≤ _) | with_reducible show (_ < _)); first | decide | lia) | apply test_cmp | exact rfl | exact fun _ => rfl | exact fun _ _ => rfl | decide | lia | (simp only [List.length_cons, List.length_nil, List.length_append, List.length_map, List.length_replicate]; lia) | (simp_all; done))) o2 (by intro _; rfl) (by rfl)) (op_ne_int _ _) (by rfl)
    rw [rngPs, witGo]
    by_cases q : indentF (wsF a) ts = indentF (wsF b) ts
    · rw [if_pos q, List.nil_append]
      exact for_cons (ρ₁ := rhoWi a b k l) (bind_name (by rfl)) (exec_post (exec_one (ex_if_f ht (by rw [q, bne_self_eq_false]) exec_nil)) (by (repeat' first | exact Sub.nil _ | refine Sub.cons (by rfl) ?_))) (wit_for W mI hI a b ha hb k n (ts + 1) l (by lia) (by lia) (Nat.lt_of_succ_lt h3))
    · rw [if_neg q, ← List.append_assoc]
      have ea : triPV (l ++ [(ts, indentF (wsF a) ts, indentF (wsF b) ts)]) = triPV l ++ [.tup [.int ts, .int (indentF (wsF a) ts), .int (indentF (wsF b) ts)]] := by unfold triPV; rw [List.map_append]; rfl
      refine for_cons (ρ₁ := rhoWi a b k (l ++ [(ts, indentF (wsF a) ts, indentF (wsF b) ts)])) (bind_name (by rfl)) (exec_post (exec_one (ex_if_t ht (bne_iff_ne.mpr q) (exec_one (ex_append (x := "a") (l := triPV l) (p := .tup [.int ts, .int (indentF (wsF a) ts), .int (indentF (wsF b) ts)]) rfl ?_ (by rfl) (by rw [triPV_len]; lia) (by rfl) (by rfl))))) (by unfold rhoWi; rw [ea]; (repeat' first | exact Sub.nil _ | refine Sub.cons (by rfl) ?_)))
        (wit_for W mI hI a b ha hb k n (ts + 1) _ (by lia) (by lia) (by rw [List.length_append, Nat.add_assoc, Nat.add_comm _ n]; exact h3))
      exact ev_tup' (by show 3 ≤ _; decide) (evs_cons' (by rfl) (by (repeat' first | (with_reducible first | exact ev_int | assumption | exact evs_nil | exact op_add_int _ _ | exact op_ne_int _ _ | exact op_range2 _ _ | exact op_max2 _ _ | exact callee_builtin _ | exact callee_type _) | ((with_reducible apply ev_name) <;> exact rfl) | (with_reducible first | apply ev_bin | apply ev_tup' | apply ev_call' | apply evs_cons' | apply test_cmp | apply ex_assign) | with_reducible exact nlo _ | with_reducible exact nhi h7 (by assumption) | ((first | with_reducible show (_ ≤ _) | with_reducible show (_ < _)); first | decide | lia) | apply test_cmp | exact rfl | exact fun _ => rfl | exact fun _ _ => rfl | decide | lia | (simp only [List.length_cons, List.length_nil, List.length_append, List.length_map, List.length_replicate]; lia) | (simp_all; done))) (evs_cons' (by rfl) (ev_methO' (ps := [.int ts]) W.hC mI (by decide) (by rfl) (by decide) (ev_name (by rfl) (by rfl)) (by (repeat' first | (with_reducible first | exact ev_int | assumption | exact evs_nil | exact op_add_int _ _ | exact op_ne_int _ _ | exact op_range2 _ _ | exact op_max2 _ _ | exact callee_builtin _ | exact callee_type _) | ((with_reducible apply ev_name) <;> exact rfl) | (with_reducible first | apply ev_bin | apply ev_tup' | apply ev_call' | apply evs_cons' | apply test_cmp | apply ex_assign) | with_reducible exact nlo _ | with_reducible exact nhi h7 (by assumption) | ((first | with_reducible show (_ ≤ _) | with_reducible show (_ < _)); first | decide | lia) | apply test_cmp | exact rfl | exact fun _ => rfl | exact fun _ _ => rfl | decide | lia | (simp only [List.length_cons, List.length_nil, List.length_append, List.length_map, List.length_replicate]; lia) | (simp_all; done))) o1 (by intro _; rfl) (by rfl)) (evs_cons' (by rfl) (ev_methO' (ps := [.int ts]) W.hC mI (by decide) (by rfl) (by decide) (ev_name (by rfl) (by rfl)) (by (repeat' first | (with_reducible first | exact ev_int | assumption | exact evs_nil | exact op_add_int _ _ | exact op_ne_int _ _ | exact op_range2 _ _ | exact op_max2 _ _ | exact callee_builtin _ | exact callee_type _) | ((with_reducible apply ev_name) <;> exact rfl) | (with_reducible first | apply ev_bin | apply ev_tup' | apply ev_call' | apply evs_cons' | apply test_cmp | apply ex_assign) | with_reducible exact nlo _ | with_reducible exact nhi h7 (by assumption) | ((first | with_reducible show (_ ≤ _) | with_reducible show (_ < _)); first | decide | lia) | apply test_cmp | exact rfl | exact fun _ => rfl | exact fun _ _ => rfl | decide | lia | (simp only [List.length_cons, List.length_nil, List.length_append, List.length_map, List.length_replicate]; lia) | (simp_all; done))) o2 (by intro _; rfl) (by rfl)) evs_nil)))
theorem op_witness {f fId fLo : Addr} (W : WsAt c N mN fI) (fn : FnAt c f ["self", "other"] (fBody sWitness) (fScope sWitness)) (gmax : GlobV c "max" (.builtin "max")) (grg : GlobV c "range" (.type "range"))
    (mI : MethAt c mN "indent_level" fId) (hI : ∀ (ws : List Nat) (ts : Int), ws.length < 900000 → 1 ≤ ts → ts < 1000000 → Op c 1 (fun vs => call (.ref fId) vs) [wsObj ws, .int ts] (.int (indentF (wsF ws) ts)))
    (mL : MethAt c mN "longest_run_of_spaces" fLo) (hL : ∀ (ws : List Nat), ws.length < 900000 → Op c 1 (fun vs => call (.ref fLo) vs) [wsObj ws] (.int (longF (wsF ws))))
    (a b : List Nat) (ha : a.length < 900000) (hb : b.length < 900000) :
    Op c 2 (fun vs => call (.ref f) vs) [wsObj a, wsObj b] (.list (triPV (witF (wsF a) (wsF b)))) := by
  refine fn_ret fn (by rfl) (by rfl) ?_
  have oa := hL a ha
  have ob := hL b hb
  obtain ⟨la, la'⟩ := long_lt a ha
  obtain ⟨lb, lb'⟩ := long_lt b hb
  unfold witF
  generalize hm : maxF (longF (wsF a)) (longF (wsF b)) = m
  have hm1 : m < 900001 ∧ -1 ≤ m := by
    subst hm
    unfold maxF
    split
    · exact ⟨lb, lb'⟩
    · exact ⟨la, la'⟩
  refine ret_cons (ρ₁ := [("self", .val (wsObj a)), ("other", .val (wsObj b)), ("n", .val (.int (m + 1)))]) ?_ ?_
  · refine ex_assign (ev_bin (p := .int m) (ev_call' (ps := [.int (longF (wsF a)), .int (longF (wsF b))]) (by rfl) (by rfl) gmax (callee_builtin _) (evs_cons' (by rfl) (ev_methO' (ps := []) W.hC mL (by decide) (by rfl) (by decide) (ev_name (by rfl) (by rfl)) evs_nil oa (by intro _; rfl) (by rfl)) (evs_cons' (by rfl) (ev_methO' (ps := []) W.hC mL (by decide) (by rfl) (by decide) (ev_name (by rfl) (by rfl)) evs_nil ob (by intro _; rfl) (by rfl)) evs_nil)) ?_) (by (repeat' first | (with_reducible first | exact ev_int | assumption | exact evs_nil | exact op_add_int _ _ | exact op_ne_int _ _ | exact op_range2 _ _ | exact op_max2 _ _ | exact callee_builtin _ | exact callee_type _) | ((with_reducible apply ev_name) <;> exact rfl) | (with_reducible first | apply ev_bin | apply ev_tup' | apply ev_call' | apply evs_cons' | apply test_cmp | apply ex_assign) | with_reducible exact nlo _ | with_reducible exact nhi h7 (by assumption) | ((first | with_reducible show (_ ≤ _) | with_reducible show (_ < _)); first | decide | lia) | apply test_cmp | exact rfl | exact fun _ => rfl | exact fun _ _ => rfl | decide | lia | (simp only [List.length_cons, List.length_nil, List.length_append, List.length_map, List.length_replicate]; lia) | (simp_all; done))) (by (repeat' first | (with_reducible first | exact ev_int | assumption | exact evs_nil | exact op_add_int _ _ | exact op_ne_int _ _ | exact op_range2 _ _ | exact op_max2 _ _ | exact callee_builtin _ | exact callee_type _) | ((with_reducible apply ev_name) <;> exact rfl) | (with_reducible first | apply ev_bin | apply ev_tup' | apply ev_call' | apply evs_cons' | apply test_cmp | apply ex_assign) | with_reducible exact nlo _ | with_reducible exact nhi h7 (by assumption) | ((first | with_reducible show (_ ≤ _) | with_reducible show (_ < _)); first | decide | lia) | apply test_cmp | exact rfl | exact fun _ => rfl | exact fun _ _ => rfl | decide | lia | (simp only [List.length_cons, List.length_nil, List.length_append, List.length_map, List.length_replicate]; lia) | (simp_all; done)))) (by rfl) (by intro _ _; rfl)
    rw [← hm]; exact op_max2 _ _
  · refine ret_cons (ρ₁ := rhoWi a b (m + 1) []) (by exact ex_own (l := []) (new_list (ps := []) (by (repeat' first | (with_reducible first | exact ev_int | assumption | exact evs_nil | exact op_add_int _ _ | exact op_ne_int _ _ | exact op_range2 _ _ | exact op_max2 _ _ | exact callee_builtin _ | exact callee_type _) | ((with_reducible apply ev_name) <;> exact rfl) | (with_reducible first | apply ev_bin | apply ev_tup' | apply ev_call' | apply evs_cons' | apply test_cmp | apply ex_assign) | with_reducible exact nlo _ | with_reducible exact nhi h7 (by assumption) | ((first | with_reducible show (_ ≤ _) | with_reducible show (_ < _)); first | decide | lia) | apply test_cmp | exact rfl | exact fun _ => rfl | exact fun _ _ => rfl | decide | lia | (simp only [List.length_cons, List.length_nil, List.length_append, List.length_map, List.length_replicate]; lia) | (simp_all; done))) (by decide)) (by rfl) (by intro _ _; rfl)) ?_
    have hf := wit_for W mI hI a b ha hb (m + 1) (m + 1).toNat 1 [] (by decide) (by lia) (by rw [List.length_nil]; lia)
    rw [List.nil_append] at hf
    refine ret_cons (ρ₁ := rhoWi a b (m + 1) (witGo (wsF a) (wsF b) 1 (m + 1).toNat)) (ex_for (p := .rng 1 (m + 1 + 1)) (by (repeat' first | (with_reducible first | exact ev_int | assumption | exact evs_nil | exact op_add_int _ _ | exact op_ne_int _ _ | exact op_range2 _ _ | exact op_max2 _ _ | exact callee_builtin _ | exact callee_type _) | ((with_reducible apply ev_name) <;> exact rfl) | (with_reducible first | apply ev_bin | apply ev_tup' | apply ev_call' | apply evs_cons' | apply test_cmp | apply ex_assign) | with_reducible exact nlo _ | with_reducible exact nhi h7 (by assumption) | ((first | with_reducible show (_ ≤ _) | with_reducible show (_ < _)); first | decide | lia) | apply test_cmp | exact rfl | exact fun _ => rfl | exact fun _ _ => rfl | decide | lia | (simp only [List.length_cons, List.length_nil, List.length_append, List.length_map, List.length_replicate]; lia) | (simp_all; done))) (by show _ ∧ _; lia) ?_ (by intro _ _; rfl)) (ret_freeze (x := "a") rfl (ret_ret (by (repeat' first | (with_reducible first | exact ev_int | assumption | exact evs_nil | exact op_add_int _ _ | exact op_ne_int _ _ | exact op_range2 _ _ | exact op_max2 _ _ | exact callee_builtin _ | exact callee_type _) | ((with_reducible apply ev_name) <;> exact rfl) | (with_reducible first | apply ev_bin | apply ev_tup' | apply ev_call' | apply evs_cons' | apply test_cmp | apply ex_assign) | with_reducible exact nlo _ | with_reducible exact nhi h7 (by assumption) | ((first | with_reducible show (_ ≤ _) | with_reducible show (_ < _)); first | decide | lia) | apply test_cmp | exact rfl | exact fun _ => rfl | exact fun _ _ => rfl | decide | lia | (simp only [List.length_cons, List.length_nil, List.length_append, List.length_map, List.length_replicate]; lia) | (simp_all; done)))))
    show ForEx _ _ _ _ _ _ (rngPs 1 (m + 1 + 1 - 1).toNat) _ _ _
    rw [Int.add_sub_cancel]
    exact hf
end
end Mine
open PySem PySem.W PyProof.Rows
open PySem.Builtin PySem.Builtin.Str
set_option Elab.async false
set_option maxRecDepth 100000
set_option linter.unusedVariables false
set_option autoImplicit false
set_option maxHeartbeats 1000000
namespace Mine
section
variable {c : Cx} {b : Blk} {d : Nat} {ρ : Rho}
theorem ev_join {g : Str} {k : Nat} {pg apos pos : Pos} {e : Expr} {ls : List (List Nat)} (h1 : Eval c b d e ρ (.list (strL ls))) (hl : (ls.map List.length).sum + ls.length * g.cps.toList.length ≤ 16777216) (he : isStar e = false)
    (hbase : ∀ env, attributeBase (.Constant (.str g) k pg) "join" env (eval (.Constant (.str g) k pg) env) = eval (.Constant (.str g) k pg) env) (hline : (apos.endLine == pos.line) = true) :
    Eval c b d (.Call (.Attribute (.Constant (.str g) k pg) "join" apos) [e] [] pos) ρ (.str (glueL g.cps.toList ls)) :=
  ev_meth' PySem.F.slot_str_join PySem.F.type_str_join (by unfold plainArgs; simp [he]) (by show 1 < 30; decide) ev_str (evs_cons' he h1 evs_nil) (op_join _ _ hl) hbase hline
theorem is_same (t : Bool) : Op2 c (compareOp .Is) (.bool t) (.bool t) (.bool true) := by
  have h := IsB.bb t t
  rw [beq_self_eq_true] at h; exact op_is _ _ true h
theorem isnot_same (t : Bool) : Op2 c (compareOp .IsNot) (.bool t) (.bool t) (.bool false) := by
  have h := IsB.bb t t
  rw [beq_self_eq_true] at h; exact op_isnot _ _ true h
end
section
variable {c : Cx} {d : Nat}

-- _law_word
noncomputable abbrev sWord : Stmt := stm 11
noncomputable def bitF (n : Int) : List Nat := ([[40], [41], [40, 34, 41, 34], [41, 34, 40, 34]] : List (List Nat))[(n % 4).toNat]?.getD []
noncomputable def wordF (ns : List Int) : List Nat := (ns.map bitF).flatten
theorem bit_at (n : Int) : itemAt (strL [[40], [41], [40, 34, 41, 34], [41, 34, 40, 34]]) (n % 4) = some (.str (bitF n)) ∧ (bitF n).length ≤ 4 ∧ -(2 ^ 63) ≤ n % 4 ∧ n % 4 < 2 ^ 63 := by
  have h0 : 0 ≤ n % 4 := Int.emod_nonneg _ (by decide)
  have h1 : n % 4 < 4 := Int.emod_lt_of_pos _ (by decide)
  unfold bitF
  obtain ⟨r, hr⟩ : ∃ r : Nat, n % 4 = r := ⟨_, (Int.toNat_of_nonneg h0).symm⟩
  rw [hr] at h1 ⊢
  have h4 : r < 4 := Int.ofNat_lt.mp h1
  rw [Int.toNat_natCast]
  match r, h4 with
  | 0, _ => exact ⟨rfl, by decide, by decide, by decide⟩
  | 1, _ => exact ⟨rfl, by decide, by decide, by decide⟩
  | 2, _ => exact ⟨rfl, by decide, by decide, by decide⟩
  | 3, _ => exact ⟨rfl, by decide, by decide, by decide⟩
theorem word_sum : ∀ ns : List Int, ((ns.map bitF).map List.length).sum ≤ 4 * ns.length
  | [] => Nat.le_refl _
  | n :: ns => by
    rw [List.map_cons, List.map_cons, List.sum_cons, List.length_cons, Nat.mul_succ, Nat.add_comm]
    exact Nat.add_le_add (word_sum ns) (bit_at n).2.1
theorem op_word {a : Addr} (fn : FnAt c a ["numbers"] (fBody sWord) (fScope sWord)) (ns : List Int) (hn : ns.length ≤ 1000) : Op c 1 (fun vs => call (.ref a) vs) [.list (ns.map .int)] (.str (wordF ns)) := by
  refine fn_ret fn (by rfl) (by rfl) (ret_ret ?_)
  have e0 : (Str.ofString "").cps.toList = [] := rfl
  refine ev_eq (ev_join (ls := ns.map bitF) ?_ ?_ (by rfl) (by intro _; rfl) (by rfl)) (by rw [e0, glue_nil]; rfl)
  · unfold strL
    rw [List.map_map]
    refine Comp.ev (comp_A (v := .list (ns.map .int)) ns .int _ (by (repeat' first | (with_reducible first | exact ev_int | exact ev_str | assumption | exact evs_nil | exact op_neg_int _ | exact op_add_int _ _ | exact op_sub_int _ _ | exact op_iadd_int _ _ | exact op_max2 _ _ | exact callee_builtin _) | ((with_reducible apply ev_name) <;> exact rfl) | (with_reducible first | apply ev_meth' PySem.F.slot_str_join PySem.F.type_str_join | apply ev_bin | apply ev_un | apply ev_sub | apply ev_list' | apply ev_tup' | apply ev_call' | apply evs_cons' | apply op_join | apply op_mod_pos | apply ex_assign | apply ex_aug | apply op_is | apply op_isnot | apply op_mul_l) | exact .bb _ _ | exact .nn | exact .inn _ | exact .sn _ | exact .bn _ | ((with_reducible first | apply item_list); (· first | assumption | rfl)) | with_reducible exact nlo _ | with_reducible exact nhi h7 (by assumption) | ((first | with_reducible show (_ ≤ _) | with_reducible show (_ < _)); first | decide | lia) | apply test_cmp | exact rfl | exact fun _ => rfl | exact fun _ _ => rfl | decide | lia | (simp only [List.length_cons, List.length_nil, List.length_append, List.length_map, List.length_replicate]; lia) | (simp_all; done))) trivial rfl ?_ (Nat.le_trans hn (by decide)) (by exact ⟨rfl, rfl, rfl, rfl⟩) (by intro _ _; rfl))
    intro n _
    obtain ⟨h1, _, h2, h3⟩ := bit_at n
    show Eval _ _ _ _ _ (.str (bitF n))
    exact ev_sub (p := .list (strL [[40], [41], [40, 34, 41, 34], [41, 34, 40, 34]])) (q := .int (n % 4)) (ev_list' (by show 4 ≤ _; decide) (evs_cons' (by rfl) (by exact ev_str) (evs_cons' (by rfl) (by exact ev_str) (evs_cons' (by rfl) (by exact ev_str) (evs_cons' (by rfl) (by exact ev_str) evs_nil))))) (by (repeat' first | (with_reducible first | exact ev_int | exact ev_str | assumption | exact evs_nil | exact op_neg_int _ | exact op_add_int _ _ | exact op_sub_int _ _ | exact op_iadd_int _ _ | exact op_max2 _ _ | exact callee_builtin _) | ((with_reducible apply ev_name) <;> exact rfl) | (with_reducible first | apply ev_meth' PySem.F.slot_str_join PySem.F.type_str_join | apply ev_bin | apply ev_un | apply ev_sub | apply ev_list' | apply ev_tup' | apply ev_call' | apply evs_cons' | apply op_join | apply op_mod_pos | apply ex_assign | apply ex_aug | apply op_is | apply op_isnot | apply op_mul_l) | exact .bb _ _ | exact .nn | exact .inn _ | exact .sn _ | exact .bn _ | ((with_reducible first | apply item_list); (· first | assumption | rfl)) | with_reducible exact nlo _ | with_reducible exact nhi h7 (by assumption) | ((first | with_reducible show (_ ≤ _) | with_reducible show (_ < _)); first | decide | lia) | apply test_cmp | exact rfl | exact fun _ => rfl | exact fun _ _ => rfl | decide | lia | (simp only [List.length_cons, List.length_nil, List.length_append, List.length_map, List.length_replicate]; lia) | (simp_all; done))) (item_list h1 h2 h3)
  · rw [e0, List.length_nil, Nat.mul_zero]
    exact Nat.le_trans (word_sum ns) (Nat.le_trans (Nat.mul_le_mul_left 4 hn) (by decide))

-- _law_due
noncomputable abbrev sDue : Stmt := stm 13
noncomputable abbrev bDue : Blk := fBlk sDue
noncomputable abbrev fDue : Stmt := nth (fBody sDue) 1
noncomputable abbrev fDue2 : Stmt := nth (wBody fDue) 0
noncomputable def dueGo : Int → Int → List Int → Int × Int
  | need, net, [] => (need, net)
  | need, net, n :: r => dueGo (maxF need (-(net + (1 - n % 2 * 2)))) (net + (1 - n % 2 * 2)) r
noncomputable def dueAll : Int → Int → List (List Int) → Int × Int
  | need, net, [] => (need, net)
  | need, net, w :: r => dueAll (dueGo need net w).1 (dueGo need net w).2 r
noncomputable abbrev rD (wv : PV) (need net : Int) : Rho := [("words", .val wv), ("need", .val (.int need)), ("net", .val (.int net))]
theorem due_for2 (gmax : GlobV c "max" (.builtin "max")) (wv : PV) : ∀ (w : List Int) (need net : Int) (ρ : Rho), Sub (rD wv need net) ρ →
    ∃ ρ', ForEx c bDue d (wTarget fDue2) (wBody fDue2) (wElse fDue2) (w.map .int) ρ .next ρ' ∧ Sub (rD wv (dueGo need net w).1 (dueGo need net w).2) ρ'
  | [], need, net, ρ, hs => ⟨ρ, for_nil exec_nil, hs⟩
  | n :: w, need, net, ρ, hs => by
    obtain ⟨ρ', h1, h2⟩ := due_for2 gmax wv w (maxF need (-(net + (1 - n % 2 * 2)))) (net + (1 - n % 2 * 2)) _ (Sub.refl _)
    have m1 : -(2 ^ 64) < n % 2 := Int.lt_of_lt_of_le (by decide) (Int.emod_nonneg _ (by decide))
    have m2 : n % 2 < 2 ^ 64 := Int.lt_trans (Int.emod_lt_of_pos _ (by decide)) (by decide)
    have hs' : Sub (("n", .val (.int n)) :: rD wv need net) (rset ρ "n" (.val (.int n))) := fun y bd e => by
      rw [rset_lookup]
      rw [List.lookup_cons] at e
      by_cases q : y = "n"
      · subst q; simpa using e
      · rw [beq_eq_false_iff_ne.mpr q] at e
        rw [if_neg q]; exact hs y bd e
    refine ⟨ρ', for_cons (ρ₁ := rD wv (maxF need (-(net + (1 - n % 2 * 2)))) (net + (1 - n % 2 * 2))) (bind_name (by rfl)) (exec_pre hs' (exec_post (exec_cons (ρ₁ := ("n", .val (.int n)) :: rD wv need (net + (1 - n % 2 * 2))) (exec1_post (ex_aug (by rfl) (by (repeat' first | (with_reducible first | exact ev_int | exact ev_str | assumption | exact evs_nil | exact op_neg_int _ | exact op_add_int _ _ | exact op_sub_int _ _ | exact op_iadd_int _ _ | exact op_max2 _ _ | exact callee_builtin _) | ((with_reducible apply ev_name) <;> exact rfl) | (with_reducible first | apply ev_meth' PySem.F.slot_str_join PySem.F.type_str_join | apply ev_bin | apply ev_un | apply ev_sub | apply ev_list' | apply ev_tup' | apply ev_call' | apply evs_cons' | apply op_join | apply op_mod_pos | apply ex_assign | apply ex_aug | apply op_is | apply op_isnot | apply op_mul_l) | exact .bb _ _ | exact .nn | exact .inn _ | exact .sn _ | exact .bn _ | ((with_reducible first | apply item_list); (· first | assumption | rfl)) | with_reducible exact nlo _ | with_reducible exact nhi h7 (by assumption) | ((first | with_reducible show (_ ≤ _) | with_reducible show (_ < _)); first | decide | lia) | apply test_cmp | exact rfl | exact fun _ => rfl | exact fun _ _ => rfl | decide | lia | (simp only [List.length_cons, List.length_nil, List.length_append, List.length_map, List.length_replicate]; lia) | (simp_all; done))) (by (repeat' first | (with_reducible first | exact ev_int | exact ev_str | assumption | exact evs_nil | exact op_neg_int _ | exact op_add_int _ _ | exact op_sub_int _ _ | exact op_iadd_int _ _ | exact op_max2 _ _ | exact callee_builtin _) | ((with_reducible apply ev_name) <;> exact rfl) | (with_reducible first | apply ev_meth' PySem.F.slot_str_join PySem.F.type_str_join | apply ev_bin | apply ev_un | apply ev_sub | apply ev_list' | apply ev_tup' | apply ev_call' | apply evs_cons' | apply op_join | apply op_mod_pos | apply ex_assign | apply ex_aug | apply op_is | apply op_isnot | apply op_mul_l) | exact .bb _ _ | exact .nn | exact .inn _ | exact .sn _ | exact .bn _ | ((with_reducible first | apply item_list); (· first | assumption | rfl)) | with_reducible exact nlo _ | with_reducible exact nhi h7 (by assumption) | ((first | with_reducible show (_ ≤ _) | with_reducible show (_ < _)); first | decide | lia) | apply test_cmp | exact rfl | exact fun _ => rfl | exact fun _ _ => rfl | decide | lia | (simp only [List.length_cons, List.length_nil, List.length_append, List.length_map, List.length_replicate]; lia) | (simp_all; done))) (by rfl) (by rfl)) (by (repeat' first | exact Sub.nil _ | refine Sub.cons (by rfl) ?_))) (exec_one (ex_assign (p := .int (maxF need (-(net + (1 - n % 2 * 2))))) (ev_call' (ps := [.int need, .int (-(net + (1 - n % 2 * 2)))]) (by rfl) (by rfl) gmax (callee_builtin _) (by (repeat' first | (with_reducible first | exact ev_int | exact ev_str | assumption | exact evs_nil | exact op_neg_int _ | exact op_add_int _ _ | exact op_sub_int _ _ | exact op_iadd_int _ _ | exact op_max2 _ _ | exact callee_builtin _) | ((with_reducible apply ev_name) <;> exact rfl) | (with_reducible first | apply ev_meth' PySem.F.slot_str_join PySem.F.type_str_join | apply ev_bin | apply ev_un | apply ev_sub | apply ev_list' | apply ev_tup' | apply ev_call' | apply evs_cons' | apply op_join | apply op_mod_pos | apply ex_assign | apply ex_aug | apply op_is | apply op_isnot | apply op_mul_l) | exact .bb _ _ | exact .nn | exact .inn _ | exact .sn _ | exact .bn _ | ((with_reducible first | apply item_list); (· first | assumption | rfl)) | with_reducible exact nlo _ | with_reducible exact nhi h7 (by assumption) | ((first | with_reducible show (_ ≤ _) | with_reducible show (_ < _)); first | decide | lia) | apply test_cmp | exact rfl | exact fun _ => rfl | exact fun _ _ => rfl | decide | lia | (simp only [List.length_cons, List.length_nil, List.length_append, List.length_map, List.length_replicate]; lia) | (simp_all; done))) (op_max2 _ _)) (by rfl) (by intro _ _; rfl)))) (by (repeat' first | exact Sub.nil _ | refine Sub.cons (by rfl) ?_)))) h1, h2⟩
noncomputable abbrev wsPV (ws : List (List Int)) : PV := .list (ws.map fun w => PV.list (w.map PV.int))
theorem due_for (gmax : GlobV c "max" (.builtin "max")) (wv : PV) : ∀ (ws : List (List Int)) (need net : Int) (ρ : Rho), Sub (rD wv need net) ρ →
    ∃ ρ', ForEx c bDue d (wTarget fDue) (wBody fDue) (wElse fDue) (ws.map fun w => PV.list (w.map PV.int)) ρ .next ρ' ∧ Sub (rD wv (dueAll need net ws).1 (dueAll need net ws).2) ρ'
  | [], need, net, ρ, hs => ⟨ρ, for_nil exec_nil, hs⟩
  | w :: ws, need, net, ρ, hs => by
    have hs' : Sub (("numbers", .val (.list (w.map .int))) :: rD wv need net) (rset ρ "numbers" (.val (.list (w.map .int)))) := fun y bd e => by
      rw [rset_lookup]
      rw [List.lookup_cons] at e
      by_cases q : y = "numbers"
      · subst q; simpa using e
      · rw [beq_eq_false_iff_ne.mpr q] at e
        rw [if_neg q]; exact hs y bd e
    obtain ⟨ρ₁, g1, g2⟩ := due_for2 (c := c) (d := d) gmax wv w need net (("numbers", .val (.list (w.map .int))) :: rD wv need net) (by (repeat' first | exact Sub.nil _ | refine Sub.cons (by rfl) ?_))
    obtain ⟨ρ', h1, h2⟩ := due_for gmax wv ws (dueGo need net w).1 (dueGo need net w).2 ρ₁ g2
    exact ⟨ρ', for_cons (bind_name (by rfl)) (exec_pre hs' (exec_one (ex_for (p := .list (w.map .int)) (by (repeat' first | (with_reducible first | exact ev_int | exact ev_str | assumption | exact evs_nil | exact op_neg_int _ | exact op_add_int _ _ | exact op_sub_int _ _ | exact op_iadd_int _ _ | exact op_max2 _ _ | exact callee_builtin _) | ((with_reducible apply ev_name) <;> exact rfl) | (with_reducible first | apply ev_meth' PySem.F.slot_str_join PySem.F.type_str_join | apply ev_bin | apply ev_un | apply ev_sub | apply ev_list' | apply ev_tup' | apply ev_call' | apply evs_cons' | apply op_join | apply op_mod_pos | apply ex_assign | apply ex_aug | apply op_is | apply op_isnot | apply op_mul_l) | exact .bb _ _ | exact .nn | exact .inn _ | exact .sn _ | exact .bn _ | ((with_reducible first | apply item_list); (· first | assumption | rfl)) | with_reducible exact nlo _ | with_reducible exact nhi h7 (by assumption) | ((first | with_reducible show (_ ≤ _) | with_reducible show (_ < _)); first | decide | lia) | apply test_cmp | exact rfl | exact fun _ => rfl | exact fun _ _ => rfl | decide | lia | (simp only [List.length_cons, List.length_nil, List.length_append, List.length_map, List.length_replicate]; lia) | (simp_all; done))) trivial g1 (by intro _ _; rfl)))) h1, h2⟩
theorem op_due {a : Addr} (fn : FnAt c a ["words"] (fBody sDue) (fScope sDue)) (gmax : GlobV c "max" (.builtin "max")) (ws : List (List Int)) :
    Op c 1 (fun vs => call (.ref a) vs) [wsPV ws] (.tup [.int (dueAll 0 0 ws).1, .int ((dueAll 0 0 ws).1 + (dueAll 0 0 ws).2)]) := by
  refine fn_ret fn (by rfl) (by rfl) ?_
  obtain ⟨ρ', h1, h2⟩ := due_for (c := c) (d := 0) gmax (wsPV ws) ws 0 0 (rD _ 0 0) (Sub.refl _)
  refine ret_pre (ρ₁ := [("words", .val (wsPV ws))]) (by (repeat' first | exact Sub.nil _ | refine Sub.cons (by rfl) ?_)) ?_
  refine ret_cons (ex_assign_all' (p := .tup [.int 0, .int 0]) (by (repeat' first | (with_reducible first | exact ev_int | exact ev_str | assumption | exact evs_nil | exact op_neg_int _ | exact op_add_int _ _ | exact op_sub_int _ _ | exact op_iadd_int _ _ | exact op_max2 _ _ | exact callee_builtin _) | ((with_reducible apply ev_name) <;> exact rfl) | (with_reducible first | apply ev_meth' PySem.F.slot_str_join PySem.F.type_str_join | apply ev_bin | apply ev_un | apply ev_sub | apply ev_list' | apply ev_tup' | apply ev_call' | apply evs_cons' | apply op_join | apply op_mod_pos | apply ex_assign | apply ex_aug | apply op_is | apply op_isnot | apply op_mul_l) | exact .bb _ _ | exact .nn | exact .inn _ | exact .sn _ | exact .bn _ | ((with_reducible first | apply item_list); (· first | assumption | rfl)) | with_reducible exact nlo _ | with_reducible exact nhi h7 (by assumption) | ((first | with_reducible show (_ ≤ _) | with_reducible show (_ < _)); first | decide | lia) | apply test_cmp | exact rfl | exact fun _ => rfl | exact fun _ _ => rfl | decide | lia | (simp only [List.length_cons, List.length_nil, List.length_append, List.length_map, List.length_replicate]; lia) | (simp_all; done))) (.one (bind_tup (binds_cons (bind_name (by rfl)) (binds_cons (bind_name (by rfl)) binds_nil)) (by rfl) (by rfl))) (by rfl) (by intro _ env he; cases env; cases he; rfl) (by intro env he; cases env; cases he; rfl)) ?_
  refine ret_pre (ρ₁ := rD (wsPV ws) 0 0) (by (repeat' first | exact Sub.nil _ | refine Sub.cons (by rfl) ?_)) ?_
  exact ret_cons (ex_for (p := wsPV ws) (by (repeat' first | (with_reducible first | exact ev_int | exact ev_str | assumption | exact evs_nil | exact op_neg_int _ | exact op_add_int _ _ | exact op_sub_int _ _ | exact op_iadd_int _ _ | exact op_max2 _ _ | exact callee_builtin _) | ((with_reducible apply ev_name) <;> exact rfl) | (with_reducible first | apply ev_meth' PySem.F.slot_str_join PySem.F.type_str_join | apply ev_bin | apply ev_un | apply ev_sub | apply ev_list' | apply ev_tup' | apply ev_call' | apply evs_cons' | apply op_join | apply op_mod_pos | apply ex_assign | apply ex_aug | apply op_is | apply op_isnot | apply op_mul_l) | exact .bb _ _ | exact .nn | exact .inn _ | exact .sn _ | exact .bn _ | ((with_reducible first | apply item_list); (· first | assumption | rfl)) | with_reducible exact nlo _ | with_reducible exact nhi h7 (by assumption) | ((first | with_reducible show (_ ≤ _) | with_reducible show (_ < _)); first | decide | lia) | apply test_cmp | exact rfl | exact fun _ => rfl | exact fun _ _ => rfl | decide | lia | (simp only [List.length_cons, List.length_nil, List.length_append, List.length_map, List.length_replicate]; lia) | (simp_all; done))) trivial h1 (by intro _ _; rfl)) (ret_pre h2 (ret_ret (by (repeat' first | (with_reducible first | exact ev_int | exact ev_str | assumption | exact evs_nil | exact op_neg_int _ | exact op_add_int _ _ | exact op_sub_int _ _ | exact op_iadd_int _ _ | exact op_max2 _ _ | exact callee_builtin _) | ((with_reducible apply ev_name) <;> exact rfl) | (with_reducible first | apply ev_meth' PySem.F.slot_str_join PySem.F.type_str_join | apply ev_bin | apply ev_un | apply ev_sub | apply ev_list' | apply ev_tup' | apply ev_call' | apply evs_cons' | apply op_join | apply op_mod_pos | apply ex_assign | apply ex_aug | apply op_is | apply op_isnot | apply op_mul_l) | exact .bb _ _ | exact .nn | exact .inn _ | exact .sn _ | exact .bn _ | ((with_reducible first | apply item_list); (· first | assumption | rfl)) | with_reducible exact nlo _ | with_reducible exact nhi h7 (by assumption) | ((first | with_reducible show (_ ≤ _) | with_reducible show (_ < _)); first | decide | lia) | apply test_cmp | exact rfl | exact fun _ => rfl | exact fun _ _ => rfl | decide | lia | (simp only [List.length_cons, List.length_nil, List.length_append, List.length_map, List.length_replicate]; lia) | (simp_all; done)))))
end
end Mine
open PySem PySem.W PyProof.Rows
open PySem.Builtin PySem.Builtin.Str
set_option Elab.async false
set_option maxRecDepth 100000
set_option linter.unusedVariables false
set_option autoImplicit false
set_option maxHeartbeats 1000000
namespace Mine
section
variable {c : Cx} {d : Nat}

-- _law_witness
noncomputable abbrev sWitL : Stmt := stm 14
noncomputable def colF (t1 b1 t2 b2 : Int) (i : Nat) : Int × Int × Int := (1 + i, t1 * (1 + i) + b1, t2 * (1 + i) + b2)
noncomputable def colsF (t1 b1 t2 b2 : Int) : List (Int × Int × Int) := (List.range (maxF b1 b2 + 1).toNat).map (colF t1 b1 t2 b2)
noncomputable def witL (t1 b1 t2 b2 : Int) : List (Int × Int × Int) := (colsF t1 b1 t2 b2).filter fun p => p.2.1 != p.2.2
noncomputable abbrev triP (p : Int × Int × Int) : PV := .tup [.int p.1, .int p.2.1, .int p.2.2]
noncomputable abbrev dueP (t b : Int) : PV := .tup [.int t, .int b]
noncomputable def aVal : Stmt → Expr
  | .Assign _ e _ => e
  | .AugAssign _ _ e _ => e
  | .Return (some e) _ => e
  | _ => noExp
theorem op_witL {a : Addr} (fn : FnAt c a ["one", "other"] (fBody sWitL) (fScope sWitL)) (gmax : GlobV c "max" (.builtin "max")) (grg : GlobV c "range" (.type "range")) (t1 b1 t2 b2 : Int) (h1 : 0 ≤ b1) (h2 : 0 ≤ b2) (h3 : b1 < 10000) (h4 : b2 < 10000) :
    Op c 1 (fun vs => call (.ref a) vs) [dueP t1 b1, dueP t2 b2] (.list (triPV (witL t1 b1 t2 b2))) := by
  refine fn_ret fn (by rfl) (by rfl) ?_
  have i1 : itemAt [PV.int t1, .int b1] 0 = some (.int t1) := rfl
  have i2 : itemAt [PV.int t1, .int b1] 1 = some (.int b1) := rfl
  have i3 : itemAt [PV.int t2, .int b2] 0 = some (.int t2) := rfl
  have i4 : itemAt [PV.int t2, .int b2] 1 = some (.int b2) := rfl
  have hm : 0 ≤ maxF b1 b2 ∧ maxF b1 b2 < 10000 := by unfold maxF; split <;> exact ⟨by assumption, by assumption⟩
  have hmax : Op c 0 (fun vs => call (.builtin "max") vs) [.int b1, .int b2] (.int (maxF b1 b2)) := op_max2 _ _
  have hcl : (colsF t1 b1 t2 b2).length = (maxF b1 b2 + 1).toNat := by unfold colsF; rw [List.length_map, List.length_range]
  refine ret_cons (ρ₁ := [("one", .val (dueP t1 b1)), ("other", .val (dueP t2 b2)), ("sizes", .val (.rng 1 (maxF b1 b2 + 2)))]) (by exact ex_assign (by (repeat' first | (with_reducible first | exact ev_int | assumption | exact evs_nil | exact op_add_int _ _ | exact op_ne_int _ _ | exact op_range2 _ _ | exact op_max2 _ _ | exact callee_builtin _ | exact callee_type _) | ((with_reducible apply ev_name) <;> exact rfl) | (with_reducible first | apply ev_bin | apply ev_sub | apply ev_tup' | apply ev_call' | apply evs_cons' | apply test_cmp | apply ex_assign) | ((with_reducible first | apply item_tup); (· first | assumption | rfl)) | with_reducible exact nlo _ | with_reducible exact nhi h7 (by assumption) | ((first | with_reducible show (_ ≤ _) | with_reducible show (_ < _)); first | decide | lia) | apply test_cmp | exact rfl | exact fun _ => rfl | exact fun _ _ => rfl | decide | lia | (simp only [List.length_cons, List.length_nil, List.length_append, List.length_map, List.length_replicate]; lia) | (simp_all; done))) (by rfl) (by intro _ _; rfl)) ?_
  have hc : Comp c (fBlk sWitL) 0 (aVal (nth (fBody sWitL) 1)) [("one", .val (dueP t1 b1)), ("other", .val (dueP t2 b2)), ("sizes", .val (.rng 1 (maxF b1 b2 + 2)))] ((List.range (maxF b1 b2 + 1).toNat).map fun i => triP (colF t1 b1 t2 b2 i)) := by
    refine comp_A (v := .rng 1 (maxF b1 b2 + 2)) (List.range (maxF b1 b2 + 1).toNat) (fun (i : Nat) => .int (1 + i)) _ (by (repeat' first | (with_reducible first | exact ev_int | assumption | exact evs_nil | exact op_add_int _ _ | exact op_ne_int _ _ | exact op_range2 _ _ | exact op_max2 _ _ | exact callee_builtin _ | exact callee_type _) | ((with_reducible apply ev_name) <;> exact rfl) | (with_reducible first | apply ev_bin | apply ev_sub | apply ev_tup' | apply ev_call' | apply evs_cons' | apply test_cmp | apply ex_assign) | ((with_reducible first | apply item_tup); (· first | assumption | rfl)) | with_reducible exact nlo _ | with_reducible exact nhi h7 (by assumption) | ((first | with_reducible show (_ ≤ _) | with_reducible show (_ < _)); first | decide | lia) | apply test_cmp | exact rfl | exact fun _ => rfl | exact fun _ _ => rfl | decide | lia | (simp only [List.length_cons, List.length_nil, List.length_append, List.length_map, List.length_replicate]; lia) | (simp_all; done))) (by show _ ∧ _; lia) ?_ ?_ (by rw [List.length_range]; lia) (by exact ⟨rfl, rfl, rfl, rfl⟩) (by intro _ _; rfl)
    · show rngPs 1 (maxF b1 b2 + 2 - 1).toNat = _
      rw [rngPs_map, show maxF b1 b2 + 2 - 1 = maxF b1 b2 + 1 by lia]
    · intro i hi
      have hi := List.mem_range.mp hi
      have u1 : -(2 ^ 64) < (1 + (i : Int)) := by lia
      have u2 : (1 + (i : Int)) < 2 ^ 64 := by lia
      have o1 : Op2 c (binaryOp .Mult) (.int t1) (.int (1 + (i : Int))) (.int (t1 * (1 + (i : Int)))) := op_mul_r _ _ u1 u2
      have o2 : Op2 c (binaryOp .Mult) (.int t2) (.int (1 + (i : Int))) (.int (t2 * (1 + (i : Int)))) := op_mul_r _ _ u1 u2
      show Eval _ _ _ _ _ (.tup [.int (1 + (i : Int)), .int (t1 * (1 + (i : Int)) + b1), .int (t2 * (1 + (i : Int)) + b2)])
      (repeat' first | (with_reducible first | exact ev_int | assumption | exact evs_nil | exact op_add_int _ _ | exact op_ne_int _ _ | exact op_range2 _ _ | exact op_max2 _ _ | exact callee_builtin _ | exact callee_type _) | ((with_reducible apply ev_name) <;> exact rfl) | (with_reducible first | apply ev_bin | apply ev_sub | apply ev_tup' | apply ev_call' | apply evs_cons' | apply test_cmp | apply ex_assign) | ((with_reducible first | apply item_tup); (· first | assumption | rfl)) | with_reducible exact nlo _ | with_reducible exact nhi h7 (by assumption) | ((first | with_reducible show (_ ≤ _) | with_reducible show (_ < _)); first | decide | lia) | apply test_cmp | exact rfl | exact fun _ => rfl | exact fun _ _ => rfl | decide | lia | (simp only [List.length_cons, List.length_nil, List.length_append, List.length_map, List.length_replicate]; lia) | (simp_all; done))
  have hcv : (List.range (maxF b1 b2 + 1).toNat).map (fun i => triP (colF t1 b1 t2 b2 i)) = triPV (colsF t1 b1 t2 b2) := by unfold triPV colsF; rw [List.map_map]; rfl
  rw [hcv] at hc
  refine ret_cons (ρ₁ := [("one", .val (dueP t1 b1)), ("other", .val (dueP t2 b2)), ("sizes", .val (.rng 1 (maxF b1 b2 + 2))), ("columns", .val (.list (triPV (colsF t1 b1 t2 b2))))]) (hc.ex (by rfl)) ?_
  refine ret_ret (Comp.ev ?_)
  unfold witL
  unfold triPV
  refine comp_F (v := .list (triPV (colsF t1 b1 t2 b2))) (colsF t1 b1 t2 b2) triP triP (fun p => p.2.1 != p.2.2) (by (repeat' first | (with_reducible first | exact ev_int | assumption | exact evs_nil | exact op_add_int _ _ | exact op_ne_int _ _ | exact op_range2 _ _ | exact op_max2 _ _ | exact callee_builtin _ | exact callee_type _) | ((with_reducible apply ev_name) <;> exact rfl) | (with_reducible first | apply ev_bin | apply ev_sub | apply ev_tup' | apply ev_call' | apply evs_cons' | apply test_cmp | apply ex_assign) | ((with_reducible first | apply item_tup); (· first | assumption | rfl)) | with_reducible exact nlo _ | with_reducible exact nhi h7 (by assumption) | ((first | with_reducible show (_ ≤ _) | with_reducible show (_ < _)); first | decide | lia) | apply test_cmp | exact rfl | exact fun _ => rfl | exact fun _ _ => rfl | decide | lia | (simp only [List.length_cons, List.length_nil, List.length_append, List.length_map, List.length_replicate]; lia) | (simp_all; done))) trivial rfl ?_ ?_ (by rw [hcl]; lia) (by exact ⟨rfl, rfl, rfl, rfl⟩) (by intro _ _; rfl)
  · intro p _
    have j1 : itemAt [PV.int p.1, .int p.2.1, .int p.2.2] 1 = some (.int p.2.1) := rfl
    have j2 : itemAt [PV.int p.1, .int p.2.1, .int p.2.2] 2 = some (.int p.2.2) := rfl
    exact test_cmp (q := .int p.2.2) (by (repeat' first | (with_reducible first | exact ev_int | assumption | exact evs_nil | exact op_add_int _ _ | exact op_ne_int _ _ | exact op_range2 _ _ | exact op_max2 _ _ | exact callee_builtin _ | exact callee_type _) | ((with_reducible apply ev_name) <;> exact rfl) | (with_reducible first | apply ev_bin | apply ev_sub | apply ev_tup' | apply ev_call' | apply evs_cons' | apply test_cmp | apply ex_assign) | ((with_reducible first | apply item_tup); (· first | assumption | rfl)) | with_reducible exact nlo _ | with_reducible exact nhi h7 (by assumption) | ((first | with_reducible show (_ ≤ _) | with_reducible show (_ < _)); first | decide | lia) | apply test_cmp | exact rfl | exact fun _ => rfl | exact fun _ _ => rfl | decide | lia | (simp only [List.length_cons, List.length_nil, List.length_append, List.length_map, List.length_replicate]; lia) | (simp_all; done))) (by (repeat' first | (with_reducible first | exact ev_int | assumption | exact evs_nil | exact op_add_int _ _ | exact op_ne_int _ _ | exact op_range2 _ _ | exact op_max2 _ _ | exact callee_builtin _ | exact callee_type _) | ((with_reducible apply ev_name) <;> exact rfl) | (with_reducible first | apply ev_bin | apply ev_sub | apply ev_tup' | apply ev_call' | apply evs_cons' | apply test_cmp | apply ex_assign) | ((with_reducible first | apply item_tup); (· first | assumption | rfl)) | with_reducible exact nlo _ | with_reducible exact nhi h7 (by assumption) | ((first | with_reducible show (_ ≤ _) | with_reducible show (_ < _)); first | decide | lia) | apply test_cmp | exact rfl | exact fun _ => rfl | exact fun _ _ => rfl | decide | lia | (simp only [List.length_cons, List.length_nil, List.length_append, List.length_map, List.length_replicate]; lia) | (simp_all; done))) (op_ne_int _ _) (by rfl)
  · intro p _ _
    exact ev_name (by rfl) (by rfl)
end
end Mine
open PySem PySem.W PyProof.Rows
open PySem.Builtin PySem.Builtin.Str
set_option Elab.async false
set_option maxRecDepth 100000
set_option linter.unusedVariables false
set_option autoImplicit false
set_option maxHeartbeats 1000000
namespace Mine

/- a text in pieces: what lies between quotation marks, and what does not -/
noncomputable def pcT (ps : List (Bool × List Nat)) : List Nat := ps.flatMap fun p => if p.1 then 34 :: (p.2 ++ [34]) else p.2
noncomputable def pcP (ps : List (Bool × List Nat)) : List Nat := ps.flatMap fun p => if p.1 then [] else p.2
theorem sRun_plain (addr : List Nat) : ∀ (w r : List Nat) (pos : Nat) (s : SSt), 34 ∉ w → sRun addr (w ++ r) pos s = sRun addr r (pos + w.length) s
  | [], r, pos, s, _ => rfl
  | ch :: w, r, pos, s, h => by
    have hc : ch ≠ 34 := fun q => h (by rw [q]; exact List.mem_cons_self)
    rw [List.cons_append, sRun, sStep, if_neg hc, sRun_plain addr w r (pos + 1) s fun q => h (List.mem_cons_of_mem _ q), List.length_cons, Nat.add_assoc, Nat.add_comm 1]
theorem sRun_pc (addr : List Nat) : ∀ (ps : List (Bool × List Nat)) (pre : List Nat) (start : Nat) (res : List (List Nat)), (∀ p ∈ ps, 34 ∉ p.2) → addr = pre ++ pcT ps → start ≤ pre.length →
    ∃ s' : SSt, sRun addr (pcT ps) pre.length ⟨start, none, res⟩ = s' ∧ s'.res.flatten ++ addr.drop s'.start = res.flatten ++ pre.drop start ++ pcP ps
  | [], pre, start, res, _, ha, _ => by
    refine ⟨_, rfl, ?_⟩
    have : addr = pre := by rw [ha]; simp [pcT]
    rw [this]
    show res.flatten ++ pre.drop start = _ ++ pcP []
    simp [pcP]
  | (false, w) :: ps, pre, start, res, h, ha, hs => by
    have e : pcT ((false, w) :: ps) = w ++ pcT ps := by simp [pcT]
    have e2 : pcP ((false, w) :: ps) = w ++ pcP ps := by simp [pcP]
    rw [e] at ha ⊢
    rw [sRun_plain addr w _ _ _ (h _ List.mem_cons_self), e2]
    obtain ⟨s', h1, h2⟩ := sRun_pc addr ps (pre ++ w) start res (fun p hp => h p (List.mem_cons_of_mem _ hp)) (by rw [ha, List.append_assoc]) (by rw [List.length_append]; lia)
    rw [List.length_append] at h1
    refine ⟨s', h1, h2.trans ?_⟩
    rw [List.drop_append_of_le_length hs]
    simp only [List.append_assoc]
  | (true, w) :: ps, pre, start, res, h, ha, hs => by
    have e : pcT ((true, w) :: ps) = 34 :: (w ++ (34 :: pcT ps)) := by simp [pcT]
    have e2 : pcP ((true, w) :: ps) = pcP ps := by simp [pcP]
    rw [e] at ha ⊢
    rw [sRun, sStep, if_pos rfl, sRun_plain addr w _ _ _ (h _ List.mem_cons_self), sRun, sStep, if_pos rfl, e2]
    simp only
    obtain ⟨s', h1, h2⟩ := sRun_pc addr ps (pre ++ 34 :: (w ++ [34])) (pre.length + 1 + w.length + 1) (if start = pre.length then res else res ++ [(addr.take pre.length).drop start]) (fun p hp => h p (List.mem_cons_of_mem _ hp))
      (by rw [ha]; simp) (by simp; lia)
    have el : (pre ++ 34 :: (w ++ [34])).length = pre.length + 1 + w.length + 1 := by simp; lia
    rw [el] at h1
    refine ⟨s', h1, h2.trans ?_⟩
    have ed : List.drop (pre.length + 1 + w.length + 1) (pre ++ 34 :: (w ++ [34])) = [] := List.drop_eq_nil_of_le (by rw [el]; exact Nat.le_refl _)
    rw [ed, List.append_nil]
    have et : addr.take pre.length = pre := by rw [ha]; simp
    rw [et]
    by_cases q : start = pre.length
    · rw [if_pos q, q, List.drop_length, List.append_nil]
    · rw [if_neg q, List.flatten_append]; simp
theorem pcT_plain : ∀ (ps : List (Bool × List Nat)), 34 ∉ pcT ps → pcT ps = pcP ps
  | [], _ => rfl
  | (false, w) :: ps, h => by
    have e : pcT ((false, w) :: ps) = w ++ pcT ps := by simp [pcT]
    have e2 : pcP ((false, w) :: ps) = w ++ pcP ps := by simp [pcP]
    rw [e] at h
    rw [e, e2, pcT_plain ps fun q => h (List.mem_append.mpr (.inr q))]
  | (true, w) :: ps, h => by
    exfalso; apply h
    have e : pcT ((true, w) :: ps) = 34 :: (w ++ (34 :: pcT ps)) := by simp [pcT]
    rw [e]; exact List.mem_cons_self
theorem strip_pc (ps : List (Bool × List Nat)) (h : ∀ p ∈ ps, 34 ∉ p.2) : stripF (pcT ps) = pcP ps := by
  unfold stripF
  split
  · obtain ⟨s', h1, h2⟩ := sRun_pc (pcT ps) ps [] 0 [] h rfl (Nat.le_refl _)
    rw [List.length_nil] at h1
    rw [h1, glue_nil]
    simp only [List.flatten_nil, List.drop_nil, List.nil_append] at h2
    rw [← h2]
    unfold stripEnd
    split
    · rw [List.flatten_append]; simp
    · rw [List.drop_eq_nil_of_le (by lia), List.append_nil]
  · rename_i q; exact pcT_plain ps q

/- three dots: what the pieces between them say -/
noncomputable def Dots : List (List Nat) → List Nat → Prop
  | [], _ => True
  | w :: ws, t => ∃ p r, t = p ++ (w ++ r) ∧ Dots ws r
theorem Dots.front : ∀ {ws : List (List Nat)} {t : List Nat} (x : List Nat), Dots ws t → Dots ws (x ++ t)
  | [], _, _, _ => trivial
  | w :: ws, _, x, ⟨p, r, e, h⟩ => ⟨x ++ p, r, by rw [e, List.append_assoc], h⟩
theorem hit_iff (s w : List Nat) (k : Nat) : hit s w k = true ↔ ∃ r, s.drop k = w ++ r := by
  unfold hit
  rw [beq_iff_eq]
  constructor
  · intro h
    refine ⟨(s.drop k).drop w.length, ?_⟩
    have := List.take_append_drop w.length (s.drop k)
    rw [h] at this; exact this.symm
  · rintro ⟨r, h⟩; rw [h, List.take_left]
theorem findN_some (s w : List Nat) (hi : Nat) : ∀ (n i k : Nat), findN s w hi n i = some k → i ≤ k ∧ k + w.length ≤ hi ∧ hit s w k = true
  | 0, _, _, h => by cases h
  | n + 1, i, k, h => by
    rw [findN] at h
    split at h
    · rename_i q; cases h; exact ⟨Nat.le_refl _, q⟩
    · obtain ⟨h1, h2⟩ := findN_some s w hi n (i + 1) k h; exact ⟨Nat.le_of_succ_le h1, h2⟩
theorem findN_first (s w : List Nat) (hi : Nat) : ∀ (n i k : Nat), i ≤ k → k < i + n → k + w.length ≤ hi → hit s w k = true → ∃ k', findN s w hi n i = some k' ∧ k' ≤ k
  | 0, _, _, h1, h2, _, _ => absurd (Nat.lt_of_le_of_lt h1 h2) (Nat.lt_irrefl _)
  | n + 1, i, k, h1, h2, h3, h4 => by
    rw [findN]
    split
    · exact ⟨i, rfl, h1⟩
    · rename_i q
      have : i ≠ k := fun e => q (by rw [e]; exact ⟨h3, h4⟩)
      exact findN_first s w hi n (i + 1) k (Nat.lt_of_le_of_ne h1 this) (by rw [Nat.add_right_comm]; exact h2) h3 h4
theorem ellGo_has (got : List Nat) (e : Nat) (he : e ≤ got.length) : ∀ (ws : List (List Nat)) (s : Nat), s ≤ e → (ellGo got e ws s = true ↔ Dots ws ((got.take e).drop s))
  | [], _, _ => ⟨fun _ => trivial, fun _ => rfl⟩
  | w :: ws, s, hs => by
    have cutk : ∀ k, hit got w k = true → k + w.length ≤ e → (got.take e).drop k = w ++ (got.take e).drop (k + w.length) := by
      intro k hk hl
      obtain ⟨r, hr⟩ := (hit_iff _ _ _).mp hk
      have e1 : (got.take e).drop k = (got.drop k).take (e - k) := List.drop_take
      have e2 : (got.take e).drop (k + w.length) = ((got.take e).drop k).drop w.length := by rw [List.drop_drop]
      rw [e2, e1, hr, List.take_append, List.take_of_length_le (Nat.le_sub_of_add_le (Nat.add_comm _ _ ▸ hl)), List.drop_left]
    rw [ellGo]
    constructor
    · intro h
      split at h
      · cases h
      · rename_i k q
        obtain ⟨h1, h2, h3⟩ := findN_some _ _ _ _ _ _ q
        refine ⟨((got.take e).drop s).take (k - s), (got.take e).drop (k + w.length), ?_, (ellGo_has got e he ws _ h2).mp h⟩
        rw [← cutk k h3 h2]
        have := List.take_append_drop (k - s) ((got.take e).drop s)
        rw [List.drop_drop, Nat.add_sub_of_le h1] at this
        exact this.symm
    · rintro ⟨p, r, h, hr⟩
      have hlen := congrArg List.length h
      simp only [List.length_drop, List.length_take, List.length_append] at hlen
      have hE : s + (p.length + (w.length + r.length)) = e := by rw [← hlen, Nat.min_eq_left he]; exact Nat.add_sub_of_le hs
      have hk : hit got w (s + p.length) = true := by
        rw [hit_iff]
        have : (got.take e).drop (s + p.length) = w ++ r := by rw [← List.drop_drop, h, List.drop_left]
        have e1 : (got.take e).drop (s + p.length) = (got.drop (s + p.length)).take (e - (s + p.length)) := List.drop_take
        rw [e1] at this
        refine ⟨r ++ (got.drop (s + p.length)).drop (e - (s + p.length)), ?_⟩
        rw [← List.append_assoc, ← this, List.take_append_drop]
      obtain ⟨k', hk', hle⟩ := findN_first got w e (e + 1 - s) s (s + p.length) (Nat.le_add_right _ _) (by rw [Nat.add_sub_of_le (Nat.le_succ_of_le hs)]; clear hlen; lia) (by clear hlen; lia) hk
      obtain ⟨f1, f2, f3⟩ := findN_some _ _ _ _ _ _ hk'
      have : findL got w s e = some k' := hk'
      rw [this]
      refine (ellGo_has got e he ws _ f2).mpr ?_
      have e3 : r = (got.take e).drop (s + p.length + w.length) := by
        rw [← List.drop_drop, ← List.drop_drop, h, List.drop_left, List.drop_left]
      have e4 : (got.take e).drop (k' + w.length) = ((got.take e).drop (k' + w.length)).take (s + p.length - k') ++ r := by
        rw [e3]
        have := List.take_append_drop (s + p.length - k') ((got.take e).drop (k' + w.length))
        rw [List.drop_drop, show k' + w.length + (s + p.length - k') = s + p.length + w.length by rw [Nat.add_right_comm, Nat.add_sub_of_le hle]] at this
        exact this.symm
      rw [e4]
      exact hr.front _

end Mine
open PySem PySem.W PyProof.Rows
open PySem.Builtin PySem.Builtin.Str
set_option Elab.async false
set_option maxRecDepth 100000
set_option linter.unusedVariables false
set_option autoImplicit false
set_option maxHeartbeats 1000000
namespace Mine

-- a stage: the pairs go
noncomputable def outS : List Nat → Nat → List Nat
  | [], _ => []
  | x :: r, 0 => if ([40, 41] : List Nat).isPrefixOf (x :: r) then outS r 1 else x :: outS r 0
  | _ :: r, k + 1 => outS r k
noncomputable def psS : List Nat → Nat → List (Bool × List Nat)
  | [], _ => []
  | x :: r, 0 => if ([40, 41] : List Nat).isPrefixOf (x :: r) then (true, []) :: psS r 1 else (false, [x]) :: psS r 0
  | _ :: r, k + 1 => psS r k
theorem psS_T : ∀ (s : List Nat) (k : Nat), pcT (psS s k) = replS [40, 41] [34, 34] s k
  | [], k => by cases k <;> rfl
  | x :: r, 0 => by
    rw [psS, replS]
    split
    · have e := psS_T r 1
      show [34, 34] ++ pcT (psS r 1) = [34, 34] ++ replS [40, 41] [34, 34] r 1
      rw [e]
    · have e := psS_T r 0
      show [x] ++ pcT (psS r 0) = x :: replS [40, 41] [34, 34] r 0
      rw [e]; rfl
  | x :: r, k + 1 => by rw [psS, replS, psS_T r k]
theorem psS_P : ∀ (s : List Nat) (k : Nat), pcP (psS s k) = outS s k
  | [], k => by cases k <;> rfl
  | x :: r, 0 => by
    rw [psS, outS]
    split
    · rw [← psS_P r 1]; rfl
    · rw [← psS_P r 0]; rfl
  | x :: r, k + 1 => by rw [psS, outS, psS_P r k]
theorem psS_q : ∀ (s : List Nat) (k : Nat), 34 ∉ s → ∀ p ∈ psS s k, 34 ∉ p.2
  | [], k, _, p, hp => by cases k <;> cases hp
  | x :: r, 0, h, p, hp => by
    have hr : 34 ∉ r := fun q => h (List.mem_cons_of_mem _ q)
    rw [psS] at hp
    split at hp
    · rcases List.mem_cons.mp hp with e | hp
      · rw [e]; exact List.not_mem_nil
      · exact psS_q r 1 hr p hp
    · rcases List.mem_cons.mp hp with e | hp
      · rw [e]; exact fun q => h (by rw [List.mem_singleton.mp q]; exact List.mem_cons_self)
      · exact psS_q r 0 hr p hp
  | x :: r, k + 1, h, p, hp => by
    rw [psS] at hp
    exact psS_q r k (fun q => h (List.mem_cons_of_mem _ q)) p hp
theorem stage_ok (s : List Nat) (h : 34 ∉ s) : stripF (replS [40, 41] [34, 34] s 0) = outS s 0 := by
  rw [← psS_T, strip_pc _ (psS_q s 0 h), psS_P]
theorem outS_mem : ∀ (s : List Nat) (k : Nat), ∀ x ∈ outS s k, x ∈ s
  | [], k, x, h => by cases k <;> cases h
  | a :: r, 0, x, h => by
    rw [outS] at h
    split at h
    · exact List.mem_cons_of_mem _ (outS_mem r 1 x h)
    · rcases List.mem_cons.mp h with e | h
      · rw [e]; exact List.mem_cons_self
      · exact List.mem_cons_of_mem _ (outS_mem r 0 x h)
  | a :: r, k + 1, x, h => by rw [outS] at h; exact List.mem_cons_of_mem _ (outS_mem r k x h)
theorem outS_len : ∀ (s : List Nat) (k : Nat), (outS s k).length ≤ s.length
  | [], k => by cases k <;> exact Nat.le_refl _
  | a :: r, 0 => by
    rw [outS]
    split
    · exact Nat.le_succ_of_le (outS_len r 1)
    · exact Nat.succ_le_succ (outS_len r 0)
  | a :: r, k + 1 => by rw [outS]; exact Nat.le_succ_of_le (outS_len r k)
noncomputable abbrev WANT : List Nat := [46, 46, 46, 40, 41, 46, 46, 46]
theorem want_ell (s : List Nat) : ellF WANT s = true ↔ ∃ p r, s = p ++ ([40, 41] ++ r) := by
  have e1 : (occS MK WANT 0 0).isEmpty = false := by decide
  have e2 : splitS MK WANT [] 0 = [[], [40, 41], []] := by decide
  unfold ellF
  rw [e1, e2, if_neg (by decide)]
  show ell1 s [[], [40, 41], []] 0 = true ↔ _
  unfold ell1
  rw [if_pos (by decide)]
  unfold ell2
  rw [if_neg (Nat.not_lt_zero _), ellGo_has s _ (Nat.le_refl _) _ _ (Nat.zero_le _), List.drop_zero, List.take_length]
  constructor
  · rintro ⟨p, r, rfl, q, t, rfl, u, v, rfl, _⟩
    exact ⟨p ++ q, u ++ v, by simp⟩
  · rintro ⟨p, r, rfl⟩
    exact ⟨[], p ++ ([40, 41] ++ r), rfl, p, r, rfl, [], r, rfl, trivial⟩
theorem outS_less : ∀ (p r : List Nat), (outS (p ++ ([40, 41] ++ r)) 0).length < (p ++ ([40, 41] ++ r)).length
  | [], r => by
    show (outS (40 :: 41 :: r) 0).length < _
    rw [outS, if_pos (by simp [List.isPrefixOf]), outS]
    exact Nat.lt_succ_of_lt (Nat.lt_succ_of_le (outS_len r 0))
  | a :: p, r => by
    rw [List.cons_append, outS]
    split
    · exact Nat.lt_succ_of_le (outS_len _ 1)
    · exact Nat.succ_lt_succ (outS_less p r)
noncomputable def stG : Nat → List Nat → List (List Nat)
  | 0, s => [s]
  | k + 1, s => if ellF WANT s then s :: stG k (outS s 0) else [s]
end Mine
open PySem PySem.W PyProof.Rows
open PySem.Builtin PySem.Builtin.Str
set_option Elab.async false
set_option maxRecDepth 100000
set_option linter.unusedVariables false
set_option autoImplicit false
set_option maxHeartbeats 1000000
namespace Mine
section
variable {c : Cx} {N : Addr} {mN : Str → Option Value} {fI : Addr}
noncomputable abbrev sLeads : Stmt := stm 12
noncomputable abbrev bLeads : Blk := fBlk sLeads
noncomputable abbrev wLeads : Stmt := nth (fBody sLeads) 1
noncomputable def leadW (s : List Nat) : List Nat := replS [41] [9] (replS [40] [32] s 0) 0 ++ [120]
noncomputable def brs (s : List Nat) : Prop := ∀ x ∈ s, x = 40 ∨ x = 41
theorem repl2_len : ∀ (s : List Nat), (replS [40, 41] [34, 34] s 0).length ≤ s.length ∧ (replS [40, 41] [34, 34] s 1).length ≤ s.length - 1
  | [] => ⟨Nat.le_refl _, Nat.le_refl _⟩
  | x :: r => by
    obtain ⟨h0, h1⟩ := repl2_len r
    refine ⟨?_, by rw [replS]; exact h0⟩
    rw [replS]
    split
    · rename_i q
      have hl := isPrefix_len q
      have hr : 1 ≤ r.length := Nat.le_of_succ_le_succ hl
      show ([34, 34] ++ replS [40, 41] [34, 34] r 1).length ≤ _
      rw [List.length_append]
      show 2 + _ ≤ r.length + 1
      lia
    · exact Nat.succ_le_succ h0
theorem repl2_mem : ∀ (s : List Nat) (k : Nat), ∀ x ∈ replS [40, 41] [34, 34] s k, x = 34 ∨ x ∈ s
  | [], k, x, h => by cases k <;> cases h
  | a :: r, 0, x, h => by
    rw [replS] at h
    split at h
    · rcases List.mem_append.mp h with h | h
      · left; simpa using h
      · exact (repl2_mem r 1 x h).imp id (List.mem_cons_of_mem _)
    · rcases List.mem_cons.mp h with h | h
      · right; rw [h]; exact List.mem_cons_self
      · exact (repl2_mem r 0 x h).imp id (List.mem_cons_of_mem _)
  | a :: r, k + 1, x, h => by rw [replS] at h; exact (repl2_mem r k x h).imp id (List.mem_cons_of_mem _)
theorem brs_out {s : List Nat} (h : brs s) : brs (outS s 0) := fun x hx => h x (outS_mem s 0 x hx)
theorem brs_q {s : List Nat} (h : brs s) : 34 ∉ s := fun q => by rcases h 34 q with e | e <;> cases e
noncomputable abbrev rSt (t : List Nat) (l : List (List Nat)) : Rho := [("text", .val (.str t)), ("stages", .own (strL l))]
theorem stages_while {aE aS : Addr} (gE : GlobV c "_ellipsis_match" (.ref aE)) (cE : Callee c (.ref aE)) (oE : ∀ want got : List Nat, got.length < 1000000 → want.length < 500000 → Op c 1 (fun vs => call (.ref aE) vs) [.str want, .str got] (.bool (ellF want got)))
    (gS : GlobV c "_strip_quoted_realnames" (.ref aS)) (cS : Callee c (.ref aS)) (oS : ∀ l : List Nat, l.length < 1000000 → (∀ ch ∈ l, ch ≠ 92) → Op c 3 (fun vs => call (.ref aS) vs) [.str l] (.str (stripF l))) (t : List Nat) :
    ∀ (k : Nat) (s : List Nat) (pre : List (List Nat)), s.length ≤ k → k < 10000 → pre.length + k < 10000 → brs s →
    While c bLeads 3 (wTest wLeads) (wBody wLeads) (wElse wLeads) (rSt t (pre ++ [s])) .next (rSt t (pre ++ stG k s)) := by
  have test : ∀ (s : List Nat) (pre : List (List Nat)), s.length < 10000 → Test c bLeads 3 (wTest wLeads) (rSt t (pre ++ [s])) (ellF WANT s) := by
    intro s pre hs
    have hit : itemAt (strL (pre ++ [s])) (-1) = some (.str s) := by unfold strL; rw [List.map_append]; exact itemAt_last _ _
    have hop := oE WANT s (Nat.lt_trans hs (by decide)) (by decide)
    exact test_own (x := "stages") (l := strL (pre ++ [s])) rfl (test_attr' (by intro _ _; rfl) (ev_call' (ps := [.str WANT, .str s]) (by rfl) (by rfl) gE cE (evs_cons' (by rfl) (by exact ev_str) (evs_cons' (by rfl) (by (repeat' first | (with_reducible first | exact ev_int | exact ev_str | assumption | exact evs_nil | exact op_neg_int _ | exact tr_bool _) | ((with_reducible apply ev_name) <;> exact rfl) | (with_reducible first | apply ev_ws | apply ev_bin | apply ev_un | apply ev_sub | apply ev_call' | apply evs_cons' | apply op_add_str) | ((with_reducible apply test_attr'); (intro _ _; rfl)) | ((with_reducible apply Op.le); (with_reducible assumption)) | ((with_reducible first | apply item_list); (· first | assumption | rfl)) | with_reducible exact nlo _ | with_reducible exact nhi h7 (by assumption) | ((first | with_reducible show (_ ≤ _) | with_reducible show (_ < _)); first | decide | lia) | apply test_cmp | exact rfl | exact fun _ => rfl | exact fun _ _ => rfl | decide | lia | (simp only [List.length_cons, List.length_nil, List.length_append, List.length_map, List.length_replicate]; lia) | (simp_all; done))) evs_nil)) (hop.le (by decide))) (tr_bool _))
  intro k
  induction k with
  | zero =>
    intro s pre hs _ _ _
    have e : s = [] := List.length_eq_zero_iff.mp (Nat.le_zero.mp hs)
    subst e
    exact while_f (test_eq (test [] pre (by decide)) (by decide)) exec_nil
  | succ k ih =>
    intro s pre hs hk hp hb
    have hs' : s.length < 10000 := Nat.lt_of_le_of_lt hs hk
    cases q : ellF WANT s with
    | false =>
      have e : stG (k + 1) s = [s] := by rw [stG, q]; rfl
      rw [e]
      exact while_f (test_eq (test s pre hs') q) exec_nil
    | true =>
      have e : pre ++ stG (k + 1) s = (pre ++ [s]) ++ stG k (outS s 0) := by rw [stG, if_pos q, List.append_assoc]; rfl
      rw [e]
      obtain ⟨p, r, hpr⟩ := (want_ell s).mp q
      have hlt : (outS s 0).length < s.length := by rw [hpr]; exact outS_less p r
      have hit : itemAt (strL (pre ++ [s])) (-1) = some (.str s) := by unfold strL; rw [List.map_append]; exact itemAt_last _ _
      have hrl := (repl2_len s).1
      have hop := oS (replS [40, 41] [34, 34] s 0) (Nat.lt_of_le_of_lt hrl (Nat.lt_trans hs' (by decide))) (fun ch hch e92 => by
        rcases repl2_mem s 0 ch hch with h | h
        · rw [e92] at h; cases h
        · rcases hb ch h with h | h <;> rw [e92] at h <;> cases h)
      rw [stage_ok s (brs_q hb)] at hop
      have hbd : s.length + (s.length + 1) * (tl (Str.ofString "\"\"")).length ≤ 16777216 := by
        have : (tl (Str.ofString "\"\"")).length = 2 := rfl
        rw [this]; lia
      have es : strL ((pre ++ [s]) ++ [outS s 0]) = strL (pre ++ [s]) ++ [.str (outS s 0)] := by unfold strL; rw [List.map_append]; rfl
      have hpl : (pre ++ [s]).length = pre.length + 1 := by rw [List.length_append]; rfl
      refine while_t (test_eq (test s pre hs') q) (exec_post (exec_one (ex_append (x := "stages") (l := strL (pre ++ [s])) (p := .str (outS s 0)) rfl (ev_own (x := "stages") (l := strL (pre ++ [s])) rfl (ev_call' (ps := [.str (replS [40, 41] [34, 34] s 0)]) (by rfl) (by rfl) gS cS (evs_cons' (by rfl) (ev_replace (l := s) (by (repeat' first | (with_reducible first | exact ev_int | exact ev_str | assumption | exact evs_nil | exact op_neg_int _ | exact tr_bool _) | ((with_reducible apply ev_name) <;> exact rfl) | (with_reducible first | apply ev_ws | apply ev_bin | apply ev_un | apply ev_sub | apply ev_call' | apply evs_cons' | apply op_add_str) | ((with_reducible apply test_attr'); (intro _ _; rfl)) | ((with_reducible apply Op.le); (with_reducible assumption)) | ((with_reducible first | apply item_list); (· first | assumption | rfl)) | with_reducible exact nlo _ | with_reducible exact nhi h7 (by assumption) | ((first | with_reducible show (_ ≤ _) | with_reducible show (_ < _)); first | decide | lia) | apply test_cmp | exact rfl | exact fun _ => rfl | exact fun _ _ => rfl | decide | lia | (simp only [List.length_cons, List.length_nil, List.length_append, List.length_map, List.length_replicate]; lia) | (simp_all; done))) (by decide) (by decide) hbd (by intro _; rfl) (by rfl)) evs_nil) hop) rfl) (by rfl) ?_ (by rfl) (by rfl))) (ρ₂ := rSt t ((pre ++ [s]) ++ [outS s 0])) (by unfold rSt; rw [es]; (repeat' first | exact Sub.nil _ | refine Sub.cons (by rfl) ?_)))
        (ih (outS s 0) (pre ++ [s]) (Nat.le_of_lt_succ (Nat.lt_of_lt_of_le hlt hs)) (Nat.lt_of_succ_lt hk) (by rw [hpl, Nat.add_right_comm]; exact hp) (brs_out hb))
      unfold strL; rw [List.length_map, hpl]; lia
theorem replS_map (a b : Nat) (s : List Nat) : replS [a] [b] s 0 = s.map fun x => if x = a then b else x := by
  rw [replS_one]
  induction s with
  | nil => rfl
  | cons x s ih => rw [List.flatMap_cons, ih, List.map_cons]; split <;> rfl
theorem leadW_map (s : List Nat) : leadW s = ((s.map fun x => if x = 40 then 32 else x).map fun x => if x = 41 then 9 else x) ++ [120] := by unfold leadW; rw [replS_map, replS_map]
theorem stG_mem : ∀ (k : Nat) (s : List Nat), brs s → ∀ x ∈ stG k s, x.length ≤ s.length ∧ brs x
  | 0, s, h, x, hx => by rw [List.mem_singleton.mp hx]; exact ⟨Nat.le_refl _, h⟩
  | k + 1, s, h, x, hx => by
    rw [stG] at hx
    split at hx
    · rcases List.mem_cons.mp hx with e | hx
      · rw [e]; exact ⟨Nat.le_refl _, h⟩
      · obtain ⟨h1, h2⟩ := stG_mem k (outS s 0) (brs_out h) x hx
        exact ⟨Nat.le_trans h1 (outS_len s 0), h2⟩
    · rw [List.mem_singleton.mp hx]; exact ⟨Nat.le_refl _, h⟩
theorem stG_len : ∀ (k : Nat) (s : List Nat), (stG k s).length ≤ k + 1
  | 0, s => Nat.le_refl _
  | k + 1, s => by
    rw [stG]
    split
    · exact Nat.succ_le_succ (stG_len k _)
    · exact Nat.succ_le_succ (Nat.zero_le _)
theorem op_leads {a aE aS : Addr} (W : WsAt c N mN fI) (fn : FnAt c a ["text"] (fBody sLeads) (fScope sLeads)) (gE : GlobV c "_ellipsis_match" (.ref aE)) (cE : Callee c (.ref aE)) (oE : ∀ want got : List Nat, got.length < 1000000 → want.length < 500000 → Op c 1 (fun vs => call (.ref aE) vs) [.str want, .str got] (.bool (ellF want got)))
    (gS : GlobV c "_strip_quoted_realnames" (.ref aS)) (cS : Callee c (.ref aS)) (oS : ∀ l : List Nat, l.length < 1000000 → (∀ ch ∈ l, ch ≠ 92) → Op c 3 (fun vs => call (.ref aS) vs) [.str l] (.str (stripF l))) (t : List Nat) (ht : t.length < 5000) (h92 : ∀ ch ∈ t, ch ≠ 92) (hb : brs (stripF t)) :
    Op c 4 (fun vs => call (.ref a) vs) [.str t] (.list ((stG (stripF t).length (stripF t)).map fun s => wsObj (leadW s))) := by
  refine fn_ret fn (by rfl) (by rfl) ?_
  have hop := oS t (Nat.lt_trans ht (by decide)) h92
  have hsl : (stripF t).length < 5000 := Nat.lt_of_le_of_lt (stripF_len t) ht
  have hw := stages_while (c := c) gE cE oE gS cS oS t (stripF t).length (stripF t) [] (Nat.le_refl _) (Nat.lt_trans hsl (by decide)) (by rw [List.length_nil, Nat.zero_add]; exact Nat.lt_trans hsl (by decide)) hb
  have hm := stG_mem (stripF t).length (stripF t) hb
  have hgl := stG_len (stripF t).length (stripF t)
  generalize stG (stripF t).length (stripF t) = L at hw hm hgl ⊢
  rw [List.nil_append] at hw
  refine ret_cons (ρ₁ := rSt t ([] ++ [stripF t])) (by exact ex_own (l := strL ([] ++ [stripF t])) (new_list (ps := [.str (stripF t)]) (evs_cons' (by rfl) (ev_call' (ps := [.str t]) (by rfl) (by rfl) gS cS (evs_cons' (by rfl) (ev_name (by rfl) (by rfl)) evs_nil) hop) evs_nil) (by decide)) (by rfl) (by intro _ _; rfl)) ?_
  refine ret_cons (ρ₁ := rSt t L) (ex_while hw) ?_
  refine ret_freeze (x := "stages") rfl (ret_ret (Comp.ev ?_))
  refine comp_A (v := .list (strL L)) L .str _ (by (repeat' first | (with_reducible first | exact ev_int | exact ev_str | assumption | exact evs_nil | exact op_neg_int _ | exact tr_bool _) | ((with_reducible apply ev_name) <;> exact rfl) | (with_reducible first | apply ev_ws | apply ev_bin | apply ev_un | apply ev_sub | apply ev_call' | apply evs_cons' | apply op_add_str) | ((with_reducible apply test_attr'); (intro _ _; rfl)) | ((with_reducible apply Op.le); (with_reducible assumption)) | ((with_reducible first | apply item_list); (· first | assumption | rfl)) | with_reducible exact nlo _ | with_reducible exact nhi h7 (by assumption) | ((first | with_reducible show (_ ≤ _) | with_reducible show (_ < _)); first | decide | lia) | apply test_cmp | exact rfl | exact fun _ => rfl | exact fun _ _ => rfl | decide | lia | (simp only [List.length_cons, List.length_nil, List.length_append, List.length_map, List.length_replicate]; lia) | (simp_all; done))) trivial rfl ?_ (by lia) (by exact ⟨rfl, rfl, rfl, rfl⟩) (by intro _ _; rfl)
  intro s hs
  have hl := (hm s hs).1
  have l1 : (replS [40] [32] s 0).length = s.length := by rw [replS_map, List.length_map]
  have l2 : (replS [41] [9] (replS [40] [32] s 0) 0).length = s.length := by rw [replS_map, List.length_map, l1]
  have l3 : (leadW s).length = s.length + 1 := by unfold leadW; rw [List.length_append, l2]; rfl
  have t1 : (tl (Str.ofString " ")).length = 1 := rfl
  have t2 : (tl (Str.ofString "\t")).length = 1 := rfl
  refine ev_ws W (by rfl) (by rfl) (by rw [l3]; lia) (ev_bin (p := .str (replS [41] [9] (replS [40] [32] s 0) 0)) (q := .str [120]) (ev_replace (l := replS [40] [32] s 0) (ev_replace (l := s) (by (repeat' first | (with_reducible first | exact ev_int | exact ev_str | assumption | exact evs_nil | exact op_neg_int _ | exact tr_bool _) | ((with_reducible apply ev_name) <;> exact rfl) | (with_reducible first | apply ev_ws | apply ev_bin | apply ev_un | apply ev_sub | apply ev_call' | apply evs_cons' | apply op_add_str) | ((with_reducible apply test_attr'); (intro _ _; rfl)) | ((with_reducible apply Op.le); (with_reducible assumption)) | ((with_reducible first | apply item_list); (· first | assumption | rfl)) | with_reducible exact nlo _ | with_reducible exact nhi h7 (by assumption) | ((first | with_reducible show (_ ≤ _) | with_reducible show (_ < _)); first | decide | lia) | apply test_cmp | exact rfl | exact fun _ => rfl | exact fun _ _ => rfl | decide | lia | (simp only [List.length_cons, List.length_nil, List.length_append, List.length_map, List.length_replicate]; lia) | (simp_all; done))) (by decide) (by decide) (by rw [t1]; lia) (by intro _; rfl) (by rfl)) (by decide) (by decide) (by rw [t2, l1]; lia) (by intro _; rfl) (by rfl)) (by exact ev_str) (op_add_str _ _ (by rw [l2]; show _ + 1 ≤ _; lia)))
end
end Mine
open PySem PySem.W PyProof.Rows
open PySem.Builtin PySem.Builtin.Str
set_option Elab.async false
set_option maxRecDepth 100000
set_option linter.unusedVariables false
set_option autoImplicit false
set_option maxHeartbeats 1000000
namespace Mine

-- the signs of a row
noncomputable def sgn (n : Int) : Nat := if n % 2 = 0 then 40 else 41
noncomputable def pcN (n : Int) : List (Bool × List Nat) := ([[(false, [40])], [(false, [41])], [(false, [40]), (true, [41])], [(false, [41]), (true, [40])]] : List (List (Bool × List Nat)))[(n % 4).toNat]?.getD []
theorem pcN_ok (n : Int) : pcT (pcN n) = bitF n ∧ pcP (pcN n) = [sgn n] ∧ ∀ p ∈ pcN n, 34 ∉ p.2 := by
  have h0 : 0 ≤ n % 4 := Int.emod_nonneg _ (by decide)
  have h1 : n % 4 < 4 := Int.emod_lt_of_pos _ (by decide)
  have h2 : n % 2 = n % 4 % 2 := by lia
  unfold pcN bitF sgn
  rw [h2]
  obtain ⟨r, hr⟩ : ∃ r : Nat, n % 4 = r := ⟨_, (Int.toNat_of_nonneg h0).symm⟩
  rw [hr] at h1 ⊢
  have h4 : r < 4 := Int.ofNat_lt.mp h1
  rw [Int.toNat_natCast]
  match r, h4 with
  | 0, _ => exact ⟨rfl, rfl, by decide⟩
  | 1, _ => exact ⟨rfl, rfl, by decide⟩
  | 2, _ => exact ⟨rfl, rfl, by decide⟩
  | 3, _ => exact ⟨rfl, rfl, by decide⟩
theorem strip_word (pre post : List Nat) (ns : List Int) (h1 : 34 ∉ pre) (h2 : 34 ∉ post) : stripF (pre ++ (wordF ns ++ post)) = pre ++ (ns.map sgn ++ post) := by
  have e1 : ∀ ns : List Int, pcT (ns.flatMap pcN) = wordF ns := by
    intro ns
    induction ns with
    | nil => rfl
    | cons n ns ih =>
      have : wordF (n :: ns) = bitF n ++ wordF ns := rfl
      rw [this, ← ih, ← (pcN_ok n).1]
      unfold pcT
      rw [List.flatMap_cons, List.flatMap_append]
  have e2 : ∀ ns : List Int, pcP (ns.flatMap pcN) = ns.map sgn := by
    intro ns
    induction ns with
    | nil => rfl
    | cons n ns ih =>
      rw [List.map_cons, ← ih]
      show _ = [sgn n] ++ _
      rw [← (pcN_ok n).2.1]
      unfold pcP
      rw [List.flatMap_cons, List.flatMap_append]
  have k := strip_pc ((false, pre) :: (ns.flatMap pcN ++ [(false, post)])) (by
    intro p hp
    rcases List.mem_cons.mp hp with e | hp
    · rw [e]; exact h1
    · rcases List.mem_append.mp hp with hp | hp
      · obtain ⟨n, _, hp⟩ := List.mem_flatMap.mp hp
        exact (pcN_ok n).2.2 p hp
      · rw [List.mem_singleton.mp hp]; exact h2)
  have t1 : pcT ((false, pre) :: (ns.flatMap pcN ++ [(false, post)])) = pre ++ (pcT (ns.flatMap pcN) ++ post) := by unfold pcT; rw [List.flatMap_cons, List.flatMap_append]; simp
  have t2 : pcP ((false, pre) :: (ns.flatMap pcN ++ [(false, post)])) = pre ++ (pcP (ns.flatMap pcN) ++ post) := by unfold pcP; rw [List.flatMap_cons, List.flatMap_append]; simp
  rw [t1, t2, e1, e2] at k
  exact k

-- what is due, from the front
noncomputable def needB : List Nat → Int
  | [] => 0
  | x :: r => if x = 40 then max 0 (needB r - 1) else needB r + 1
noncomputable def netB : List Nat → Int
  | [] => 0
  | x :: r => (if x = 40 then 1 else -1) + netB r
theorem need_nn : ∀ s : List Nat, 0 ≤ needB s
  | [] => Int.le_refl _
  | x :: r => by
    have := need_nn r
    rw [needB]
    split <;> lia
theorem sgn_step (n : Int) : (sgn n = 40 ∧ 1 - n % 2 * 2 = 1) ∨ (sgn n = 41 ∧ 1 - n % 2 * 2 = -1) := by
  unfold sgn
  by_cases h : n % 2 = 0
  · left; rw [if_pos h]; exact ⟨rfl, by lia⟩
  · right; rw [if_neg h]; exact ⟨rfl, by lia⟩
theorem due_B : ∀ (ns : List Int) (need net : Int), -net ≤ need → dueGo need net ns = (max need (needB (ns.map sgn) - net), net + netB (ns.map sgn))
  | [], need, net, h => by
    show (need, net) = _
    have e1 : max need ((0 : Int) - net) = need := by lia
    show (need, net) = (max need (0 - net), net + 0)
    rw [e1, Int.add_zero]
  | n :: ns, need, net, h => by
    have hn := need_nn (ns.map sgn)
    rw [dueGo, List.map_cons, needB, netB]
    rcases sgn_step n with ⟨e1, e2⟩ | ⟨e1, e2⟩
    · rw [e1, e2, due_B ns _ _ (by unfold maxF; split <;> lia), if_pos rfl, if_pos rfl]
      unfold maxF
      refine Prod.ext ?_ ?_
      · show max (if _ then _ else _) _ = max _ _
        split <;> lia
      · show _ + 1 + _ = _ + (1 + _)
        lia
    · rw [e1, e2, due_B ns _ _ (by unfold maxF; split <;> lia), if_neg (by decide), if_neg (by decide)]
      unfold maxF
      refine Prod.ext ?_ ?_
      · show max (if _ then _ else _) _ = max _ _
        split <;> lia
      · show _ + -1 + _ = _ + (-1 + _)
        lia
theorem out_B : ∀ s : List Nat, needB (outS s 0) = needB s ∧ netB (outS s 0) = netB s
  | [] => ⟨rfl, rfl⟩
  | [x] => by
    have : outS [x] 0 = [x] := by rw [outS, if_neg (by simp [List.isPrefixOf]), outS]
    rw [this]; exact ⟨rfl, rfl⟩
  | x :: y :: r => by
    rw [outS]
    split
    · rename_i q
      have q' : x = 40 ∧ y = 41 := by
        simp only [List.isPrefixOf, Bool.and_eq_true, beq_iff_eq, and_true] at q
        exact ⟨q.1.symm, q.2.symm⟩
      obtain ⟨rfl, rfl⟩ := q'
      obtain ⟨h1, h2⟩ := out_B r
      have hn := need_nn r
      rw [outS, h1, h2]
      refine ⟨?_, ?_⟩
      · rw [needB, if_pos rfl, needB, if_neg (by decide)]; lia
      · rw [netB, if_pos rfl, netB, if_neg (by decide)]; lia
    · obtain ⟨h1, h2⟩ := out_B (y :: r)
      rw [needB, netB, h1, h2]
      exact ⟨(needB.eq_2 x (y :: r)).symm, (netB.eq_2 x (y :: r)).symm⟩
theorem sorted_B : ∀ s : List Nat, brs s → (¬ ∃ p r, s = p ++ ([40, 41] ++ r)) → ∃ a b : Nat, s = List.replicate a 41 ++ List.replicate b 40
  | [], _, _ => ⟨0, 0, rfl⟩
  | x :: r, hb, hn => by
    obtain ⟨a, b, e⟩ := sorted_B r (fun y hy => hb y (List.mem_cons_of_mem _ hy)) (fun ⟨p, q, h⟩ => hn ⟨x :: p, q, by rw [h]; rfl⟩)
    rcases hb x List.mem_cons_self with hx | hx
    · subst hx
      cases a with
      | zero => exact ⟨0, b + 1, by rw [e]; rfl⟩
      | succ a => exact absurd ⟨[], List.replicate a 41 ++ List.replicate b 40, by rw [e]; rfl⟩ hn
    · subst hx
      exact ⟨a + 1, b, by rw [e]; rfl⟩
theorem opens_B : ∀ b : Nat, needB (List.replicate b 40) = 0 ∧ netB (List.replicate b 40) = b
  | 0 => ⟨rfl, rfl⟩
  | b + 1 => by
    obtain ⟨h1, h2⟩ := opens_B b
    rw [List.replicate_succ, needB, netB, if_pos rfl, if_pos rfl, h1, h2]
    exact ⟨by decide, by lia⟩
theorem end_B (b : Nat) : ∀ a : Nat, needB (List.replicate a 41 ++ List.replicate b 40) = a ∧ netB (List.replicate a 41 ++ List.replicate b 40) = (b : Int) - a
  | 0 => by
    rw [List.replicate_zero, List.nil_append]
    exact ⟨(opens_B b).1, by rw [(opens_B b).2]; exact (Int.sub_zero _).symm⟩
  | a + 1 => by
    obtain ⟨h1, h2⟩ := end_B b a
    rw [List.replicate_succ, List.cons_append, needB, netB, if_neg (by decide), if_neg (by decide), h1, h2]
    exact ⟨by lia, by lia⟩
theorem chk_B (r : List Nat) : ∀ (s : List Nat) (o : Int), brs s → 0 ≤ o → chkGo (s ++ r) o = if o < needB s then false else chkGo r (o + netB s)
  | [], o, _, h => by
    rw [needB, netB, if_neg (Int.not_lt.mpr h), Int.add_zero]; rfl
  | x :: s, o, hb, h => by
    have hb' : brs s := fun y hy => hb y (List.mem_cons_of_mem _ hy)
    have hn := need_nn s
    rw [List.cons_append, chkGo, needB, netB]
    rcases hb x List.mem_cons_self with hx | hx
    · subst hx
      rw [if_pos rfl, if_pos rfl, if_pos rfl, chk_B r s (o + 1) hb' (by lia)]
      by_cases q : o + 1 < needB s
      · rw [if_pos q, if_pos (by lia)]
      · rw [if_neg q, if_neg (by lia), Int.add_assoc]
    · subst hx
      simp only [show ¬ ((41 : Nat) = 40) by decide, if_false, if_true]
      by_cases p : o - 1 < 0
      · rw [if_pos p, if_pos (by lia)]
      · rw [if_neg p, chk_B r s (o - 1) hb' (by lia)]
        by_cases q : o - 1 < needB s
        · rw [if_pos q, if_pos (by lia)]
        · rw [if_neg q, if_neg (by lia), show o - 1 + netB s = o + (-1 + netB s) by lia]
end Mine
open PySem PySem.W PyProof.Rows
open PySem.Builtin PySem.Builtin.Str
set_option Elab.async false
set_option maxRecDepth 100000
set_option linter.unusedVariables false
set_option autoImplicit false
set_option maxHeartbeats 1000000
namespace Mine

-- rows of words
theorem need_app : ∀ u v : List Nat, needB (u ++ v) = max (needB u) (needB v - netB u) ∧ netB (u ++ v) = netB u + netB v
  | [], v => by
    have := need_nn v
    rw [List.nil_append]
    exact ⟨by show _ = max (0 : Int) (_ - 0); lia, (Int.zero_add _).symm⟩
  | x :: u, v => by
    obtain ⟨h1, h2⟩ := need_app u v
    rw [List.cons_append]
    refine ⟨?_, ?_⟩
    · rw [needB, h1, needB, netB]
      split <;> lia
    · show _ + netB (u ++ v) = (_ + netB u) + netB v
      rw [h2, Int.add_assoc]
/- Adjan's identity -/
theorem adjan (x y : List Nat) : needB (x ++ (y ++ (y ++ (x ++ (x ++ (y ++ (x ++ (y ++ (y ++ x))))))))) = needB (x ++ (y ++ (y ++ (x ++ (y ++ (x ++ (x ++ (y ++ (y ++ x)))))))))
    ∧ netB (x ++ (y ++ (y ++ (x ++ (x ++ (y ++ (x ++ (y ++ (y ++ x))))))))) = netB (x ++ (y ++ (y ++ (x ++ (y ++ (x ++ (x ++ (y ++ (y ++ x))))))))) := by
  have e1 : x ++ (y ++ (y ++ (x ++ (x ++ (y ++ (x ++ (y ++ (y ++ x)))))))) = (x ++ y) ++ ((y ++ x) ++ ((x ++ y) ++ ((x ++ y) ++ (y ++ x)))) := by simp only [List.append_assoc]
  have e2 : x ++ (y ++ (y ++ (x ++ (y ++ (x ++ (x ++ (y ++ (y ++ x)))))))) = (x ++ y) ++ ((y ++ x) ++ ((y ++ x) ++ ((x ++ y) ++ (y ++ x)))) := by simp only [List.append_assoc]
  have hn : netB (y ++ x) = netB (x ++ y) := by rw [(need_app y x).2, (need_app x y).2, Int.add_comm]
  rw [e1, e2]
  generalize x ++ y = u at hn ⊢
  generalize y ++ x = v at hn ⊢
  simp only [(need_app _ _).1, (need_app _ _).2, hn]
  refine ⟨?_, trivial⟩
  have := need_nn u
  generalize needB u = U
  generalize needB v = V
  generalize netB u = N
  by_cases h : 0 ≤ N
  · lia
  · lia

-- the leads
theorem wsGo_app : ∀ (u v : List Nat) (s : WSt), (∀ x ∈ u, x = 32 ∨ x = 9) → wsGo (u ++ v) s = wsGo v (wsGo u s)
  | [], _, _, _ => rfl
  | x :: u, v, s, h => by
    have hu := fun y hy => h y (List.mem_cons_of_mem _ hy)
    rw [List.cons_append, wsGo, wsGo]
    rcases h x List.mem_cons_self with e | e
    · subst e; rw [if_pos rfl, if_pos rfl, wsGo_app u v _ hu]
    · subst e; rw [if_neg (by decide), if_pos rfl, if_neg (by decide), if_pos rfl, wsGo_app u v _ hu]
theorem grow_ge (l : List Nat) (b : Nat) : l.length ≤ (grow l b).length := by
  unfold grow
  split
  · rw [List.length_append]; exact Nat.le_add_right _ _
  · exact Nat.le_refl _
theorem wsGo_ge : ∀ (u : List Nat) (s : WSt), s.count.length ≤ (wsGo u s).count.length
  | [], _ => Nat.le_refl _
  | x :: u, s => by
    rw [wsGo]
    split
    · exact wsGo_ge u ⟨s.count, s.b + 1, s.n + 1, s.nt⟩
    · split
      · refine Nat.le_trans ?_ (wsGo_ge u ⟨bump s.count s.b, 0, s.n + 1, s.nt + 1⟩)
        show _ ≤ (bump s.count s.b).length
        unfold bump
        rw [List.length_set]; exact grow_ge _ _
      · exact Nat.le_refl _
noncomputable abbrev mp (s : List Nat) : List Nat := (s.map fun x => if x = 40 then 32 else x).map fun x => if x = 41 then 9 else x
theorem mp_ok {s : List Nat} (h : brs s) : ∀ x ∈ mp s, x = 32 ∨ x = 9 := by
  intro x hx
  obtain ⟨y, hy, rfl⟩ := List.mem_map.mp hx
  obtain ⟨z, hz, rfl⟩ := List.mem_map.mp hy
  rcases h z hz with e | e
  · left; rw [e]; rfl
  · right; rw [e]; rfl
theorem lead_pair (p r : List Nat) (h : brs (p ++ ([40, 41] ++ r))) : 2 ≤ (wsF (leadW (p ++ ([40, 41] ++ r)))).count.length := by
  have hp : brs p := fun x hx => h x (List.mem_append.mpr (.inl hx))
  have e : leadW (p ++ ([40, 41] ++ r)) = mp p ++ (32 :: 9 :: (mp r ++ [120])) := by rw [leadW_map]; simp [mp]
  rw [e]
  unfold wsF
  rw [wsGo_app _ _ _ (mp_ok hp), wsGo, if_pos rfl, wsGo, if_neg (by decide), if_pos rfl]
  refine Nat.le_trans ?_ (wsGo_ge _ _)
  show 2 ≤ (bump _ _).length
  unfold bump
  rw [List.length_set]
  exact Nat.lt_of_le_of_lt (Nat.succ_le_succ (Nat.zero_le _)) (grow_len _ _)
noncomputable def cnt1 (a : Nat) : List Nat := match a with
  | 0 => []
  | a + 1 => [a + 1]
theorem cnt1_len (a : Nat) : (cnt1 a).length ≤ 1 := by
  cases a with
  | zero => exact Nat.zero_le _
  | succ a => exact Nat.le_refl _
theorem wsGo_tabs (v : List Nat) : ∀ (a k : Nat), wsGo (List.replicate a 9 ++ v) ⟨cnt1 k, 0, k, k⟩ = wsGo v ⟨cnt1 (k + a), 0, k + a, k + a⟩
  | 0, k => rfl
  | a + 1, k => by
    rw [List.replicate_succ, List.cons_append, wsGo, if_neg (by decide), if_pos rfl]
    have e : bump (cnt1 k) 0 = cnt1 (k + 1) := by cases k <;> rfl
    show wsGo _ ⟨bump (cnt1 k) 0, 0, k + 1, k + 1⟩ = _
    rw [e, wsGo_tabs v a (k + 1), show k + 1 + a = k + (a + 1) by rw [Nat.add_right_comm]; rfl]
theorem wsGo_spc (v : List Nat) : ∀ (k : Nat) (s : WSt), wsGo (List.replicate k 32 ++ v) s = wsGo v ⟨s.count, s.b + k, s.n + k, s.nt⟩
  | 0, s => rfl
  | k + 1, s => by
    rw [List.replicate_succ, List.cons_append, wsGo, if_pos rfl, wsGo_spc v k]
    simp only [Nat.add_assoc, Nat.add_comm 1 k]
noncomputable abbrev endW (a b : Nat) : WSt := ⟨cnt1 a, b, a + b, a⟩
theorem lead_end (a b : Nat) : wsF (leadW (List.replicate a 41 ++ List.replicate b 40)) = endW a b := by
  have e : leadW (List.replicate a 41 ++ List.replicate b 40) = List.replicate a 9 ++ (List.replicate b 32 ++ [120]) := by rw [leadW_map]; simp
  rw [e]
  have := wsGo_tabs (List.replicate b 32 ++ [120]) a 0
  refine Eq.trans (b := wsGo (List.replicate a 9 ++ (List.replicate b 32 ++ [120])) ⟨cnt1 0, 0, 0, 0⟩) rfl (this.trans ?_)
  rw [wsGo_spc]
  simp only [Nat.zero_add]
  rfl
theorem end_eq (a b a' b' : Nat) : eqS (endW a b) (endW a' b') = (decide (a = a') && decide (b = b')) := by
  have e : (cnt1 a == cnt1 a') = decide (a = a') := by
    rw [Bool.eq_iff_iff, beq_iff_eq, decide_eq_true_eq]
    constructor
    · intro h
      cases a with
      | zero => cases a' with
        | zero => rfl
        | succ a' => cases h
      | succ a => cases a' with
        | zero => cases h
        | succ a' => injection h
    · intro h; rw [h]
  show ((cnt1 a == cnt1 a') && (b == b')) = _
  rw [e]; rfl
theorem end_indent (a b : Nat) (ts : Int) (h : 1 ≤ ts) : indentF (endW a b) ts = b + ts * a := by
  have e : ((cnt1 a).length - ts : Int).toNat = 0 := by
    have := cnt1_len a
    lia
  show (b : Int) + ts * (ilGo (cnt1 a) ts ts ((cnt1 a).length - ts : Int).toNat 0 + a) = _
  rw [e, ilGo, Int.zero_add]
theorem end_long (a b : Nat) : longF (endW a b) = b := by
  have := cnt1_len a
  show (if (b : Int) > ((cnt1 a).length : Int) - 1 then (b : Int) else ((cnt1 a).length : Int) - 1) = b
  split <;> lia
theorem end_simple (a b : Nat) : (endW a b).count.length ≤ 1 := cnt1_len a
end Mine
open PySem PySem.W PyProof.Rows
open PySem.Builtin PySem.Builtin.Str
set_option Elab.async false
set_option maxRecDepth 100000
set_option linter.unusedVariables false
set_option autoImplicit false
set_option maxHeartbeats 1000000
namespace Mine

theorem stages_ok : ∀ (k : Nat) (s : List Nat), s.length ≤ k → brs s → ∃ (M : List (List Nat)) (a b : Nat), stG k s = M ++ [List.replicate a 41 ++ List.replicate b 40] ∧ (∀ m ∈ M, ∃ p r, m = p ++ ([40, 41] ++ r) ∧ brs (p ++ ([40, 41] ++ r))) ∧ needB s = a ∧ netB s = (b : Int) - a
  | 0, s, h, _ => by
    have e : s = [] := List.length_eq_zero_iff.mp (Nat.le_zero.mp h)
    subst e
    exact ⟨[], 0, 0, rfl, (fun m hm => by cases hm), rfl, rfl⟩
  | k + 1, s, h, hb => by
    cases q : ellF WANT s with
    | true =>
      obtain ⟨p, r, e⟩ := (want_ell s).mp q
      have hlt : (outS s 0).length < s.length := by rw [e]; exact outS_less p r
      obtain ⟨M, a, b, h1, h2, h3, h4⟩ := stages_ok k (outS s 0) (Nat.le_of_lt_succ (Nat.lt_of_lt_of_le hlt h)) (brs_out hb)
      rw [(out_B s).1] at h3
      rw [(out_B s).2] at h4
      refine ⟨s :: M, a, b, by rw [stG, if_pos q, h1]; rfl, ?_, h3, h4⟩
      intro m hm
      rcases List.mem_cons.mp hm with e' | hm
      · exact ⟨p, r, e'.trans e, e ▸ hb⟩
      · exact h2 m hm
    | false =>
      obtain ⟨a, b, e⟩ := sorted_B s hb (fun hx => by rw [(want_ell s).mpr hx] at q; cases q)
      have hE := end_B b a
      exact ⟨[], a, b, by rw [stG, q, e]; rfl, (fun m hm => by cases hm), by rw [e]; exact hE.1, by rw [e]; exact hE.2⟩
theorem witGo_filter (s t : WSt) : ∀ (n : Nat) (ts : Int), witGo s t ts n = ((List.range n).map fun (i : Nat) => (ts + (i : Int), indentF s (ts + i), indentF t (ts + i))).filter fun p => p.2.1 != p.2.2
  | 0, _ => rfl
  | n + 1, ts => by
    rw [witGo, witGo_filter s t n (ts + 1), List.range_succ_eq_map, List.map_cons, List.map_map, List.filter_cons]
    have e0 : ts + ((0 : Nat) : Int) = ts := Int.add_zero ts
    have e1 : (List.range n).map (fun (i : Nat) => (ts + 1 + (i : Int), indentF s (ts + 1 + i), indentF t (ts + 1 + i))) = (List.range n).map ((fun (i : Nat) => (ts + (i : Int), indentF s (ts + i), indentF t (ts + i))) ∘ Nat.succ) := by
      apply List.map_congr_left
      intro i _
      have : ts + 1 + (i : Int) = ts + ((i + 1 : Nat) : Int) := by lia
      show (_, _, _) = (ts + ((i + 1 : Nat) : Int), _, _)
      rw [this]
    rw [← e1, e0]
    by_cases q : indentF s ts = indentF t ts
    · rw [if_pos q, if_neg (by rw [q]; simp)]; rfl
    · rw [if_neg q, if_pos (bne_iff_ne.mpr q)]; rfl
theorem end_wit (a b a' b' : Nat) : witF (endW a b) (endW a' b') = witL a b a' b' := by
  unfold witF witL colsF
  rw [end_long, end_long, witGo_filter]
  congr 1
  apply List.map_congr_left
  intro i _
  have h : (1 : Int) ≤ 1 + (i : Int) := by lia
  rw [end_indent _ _ _ h, end_indent _ _ _ h]
  unfold colF
  rw [Int.add_comm (b : Int), Int.add_comm (b' : Int), Int.mul_comm _ (a : Int), Int.mul_comm _ (a' : Int)]
theorem wit_same (a b : Nat) : witL a b a b = [] := by
  unfold witL
  rw [List.filter_eq_nil_iff]
  intro p hp
  obtain ⟨i, _, rfl⟩ := List.mem_map.mp hp
  exact fun h => bne_iff_ne.mp h rfl

-- the two check questions
theorem check_row (a b : Nat) (ns : List Int) (hn : needB (ns.map sgn) = a) (ht : netB (ns.map sgn) = (b : Int) - a) : checkF (List.replicate a 40 ++ (wordF ns ++ List.replicate b 41)) = true := by
  have hb : brs (ns.map sgn) := fun x hx => by
    obtain ⟨n, _, rfl⟩ := List.mem_map.mp hx
    rcases sgn_step n with h | h
    · exact .inl h.1
    · exact .inr h.1
  have ho : brs (List.replicate a 40) := fun x hx => .inl (List.eq_of_mem_replicate hx)
  have q1 : (34 : Nat) ∉ List.replicate a 40 := fun q => absurd (List.eq_of_mem_replicate q) (by decide)
  have q2 : (34 : Nat) ∉ List.replicate b 41 := fun q => absurd (List.eq_of_mem_replicate q) (by decide)
  unfold checkF
  rw [strip_word _ _ _ q1 q2, chk_B _ _ 0 ho (Int.le_refl _), (opens_B a).1, (opens_B a).2, if_neg (Int.lt_irrefl _), chk_B _ _ _ hb (by lia), hn, ht, if_neg (by lia), show (0 : Int) + a + ((b : Int) - a) = b by lia]
  have hc : ∀ b : Nat, chkGo (List.replicate b 41) b = true := by
    intro b
    induction b with
    | zero => rfl
    | succ b ih => rw [List.replicate_succ, chkGo, if_neg (by decide), if_pos rfl, if_neg (by lia), show ((b + 1 : Nat) : Int) - 1 = (b : Nat) by lia, ih]
  exact hc b
theorem check_less (a : Nat) (post : List Nat) (ns : List Int) (hq : 34 ∉ post) (hn : needB (ns.map sgn) = ((a + 1 : Nat) : Int)) : checkF (List.replicate a 40 ++ (wordF ns ++ post)) = false := by
  have hb : brs (ns.map sgn) := fun x hx => by
    obtain ⟨n, _, rfl⟩ := List.mem_map.mp hx
    rcases sgn_step n with h | h
    · exact .inl h.1
    · exact .inr h.1
  have ho : brs (List.replicate a 40) := fun x hx => .inl (List.eq_of_mem_replicate hx)
  have q1 : (34 : Nat) ∉ List.replicate a 40 := fun q => absurd (List.eq_of_mem_replicate q) (by decide)
  unfold checkF
  rw [strip_word _ _ _ q1 hq, chk_B _ _ 0 ho (Int.le_refl _), (opens_B a).1, (opens_B a).2, if_neg (Int.lt_irrefl _), chk_B _ _ _ hb (by lia), hn, if_pos (by lia)]
theorem dueAll_flat : ∀ (ws : List (List Int)) (need net : Int), dueAll need net ws = dueGo need net ws.flatten
  | [], _, _ => rfl
  | w :: ws, need, net => by
    have e : ∀ (u v : List Int) (p q : Int), dueGo p q (u ++ v) = dueGo (dueGo p q u).1 (dueGo p q u).2 v := by
      intro u
      induction u with
      | nil => intro v p q; rfl
      | cons n u ih => intro v p q; rw [List.cons_append, dueGo, dueGo, ih]
    rw [dueAll, List.flatten_cons, e, dueAll_flat ws]
theorem due_row (ws : List (List Int)) : dueAll 0 0 ws = (needB (ws.flatten.map sgn), netB (ws.flatten.map sgn)) := by
  rw [dueAll_flat, due_B _ 0 0 (Int.le_refl _)]
  have := need_nn (ws.flatten.map sgn)
  rw [Int.sub_zero, Int.zero_add, show max 0 (needB (ws.flatten.map sgn)) = needB (ws.flatten.map sgn) by lia]
end Mine
open PySem PySem.W PyProof.Rows
open PySem.Builtin PySem.Builtin.Str
set_option Elab.async false
set_option maxRecDepth 100000
set_option linter.unusedVariables false
set_option autoImplicit false
set_option maxHeartbeats 1000000
namespace Mine

-- every second number
theorem pick_map {α β : Type} (f : α → β) (l : List α) : ∀ ix : List Nat, pick (l.map f) ix = (pick l ix).map f
  | [] => rfl
  | i :: ix => by
    have ih := pick_map f l ix
    unfold pick at ih ⊢
    rw [List.filterMap_cons, List.filterMap_cons, List.getElem?_map, ih]
    cases l[i]? <;> rfl
theorem pick_len {α : Type} (l : List α) (ix : List Nat) : (pick l ix).length ≤ ix.length := List.length_filterMap_le _ _
noncomputable def evF (k : Int) (ns : List Int) : List Int := pick ns (sliceIx (some k) (some 6) (some 2) ns.length)
theorem ev_slice {c : Cx} (k : Int) (ns : List Int) (h : ns.length ≤ 1000) : Cut c (some k) (some 6) (some 2) (.list (ns.map .int)) (.list ((evF k ns).map .int)) := by
  have := cut_list (c := c) (l := ns.map PV.int) (lo := some k) (hi := some 6) (st := some 2) (by decide) (by rw [List.length_map]; exact Nat.le_trans h (by decide))
  rw [List.length_map, pick_map] at this
  exact this
theorem evF_len (k : Nat) (ns : List Int) : (evF k ns).length ≤ 3 := by
  refine Nat.le_trans (pick_len _ _) ?_
  unfold sliceIx sliceBounds sliceRange
  simp only [Option.getD_some, show (2 : Int) > 0 by decide, if_true]
  rw [List.length_map, List.length_range]
  have e1 : ¬ ((k : Int) < 0) := Int.not_lt.mpr (Int.natCast_nonneg k)
  simp only [e1, show ¬ ((6 : Int) < 0) by decide, if_false]
  split <;> lia
section
variable {c : Cx} {b : Blk} {d : Nat} {ρ : Rho} {N : Addr} {mN : Str → Option Value} {fI : Addr}
noncomputable abbrev AttrOk (o : Expr) (attr : Str) (pos : Pos) : Prop := ∀ env, eval (.Attribute o attr pos) env = (do
      let v ← eval o env
      standAt pos.atName
      let r ← holding [v] (getAttr v attr true)
      letTemporaryGo o v r
      pure r)
theorem ev_ntS {o : Expr} {pos : Pos} {ws : List Nat} (W : WsAt c N mN fI) (h0 : Eval c b d o ρ (wsObj ws)) (he : AttrOk o "nt" pos) : Eval c b d (.Attribute o "nt" pos) ρ (.int (wsF ws).nt) := ev_attr_any W.hC h0 rfl W.nt (no_obj_attr (by decide)) he
theorem ev_nS {o : Expr} {pos : Pos} {ws : List Nat} (W : WsAt c N mN fI) (h0 : Eval c b d o ρ (wsObj ws)) (he : AttrOk o "n" pos) : Eval c b d (.Attribute o "n" pos) ρ (.int (wsF ws).n) := ev_attr_any W.hC h0 rfl W.n (no_obj_attr (by decide)) he
theorem ev_simpleS {o : Expr} {pos : Pos} {ws : List Nat} (W : WsAt c N mN fI) (h0 : Eval c b d o ρ (wsObj ws)) (he : AttrOk o "is_simple" pos) : Eval c b d (.Attribute o "is_simple" pos) ρ (.bool (decide ((wsF ws).count.length ≤ 1))) := ev_attr_any W.hC h0 rfl W.simple (no_obj_attr (by decide)) he
end
section
variable {c : Cx} {N : Addr} {mN : Str → Option Value} {fI : Addr}
noncomputable abbrev sLaw : Stmt := stm 15
noncomputable abbrev bLaw : Blk := fBlk sLaw
noncomputable abbrev lS (i : Nat) : Stmt := nth (fBody sLaw) i
noncomputable abbrev fRow : Stmt := lS 4
noncomputable abbrev fK : Stmt := nth (wBody fRow) 4
theorem sub_set {R ρ : Rho} {x : Str} {v : Bd} (h : Sub R ρ) (hx : R.lookup x = none) : Sub R (rset ρ x v) := fun y bd e => by
  rw [rset_lookup]
  by_cases q : y = x
  · subst q; rw [hx] at e; cases e
  · rw [if_neg q]; exact h y bd e
theorem sub_new {R ρ : Rho} {x : Str} {v : Bd} (h : Sub R ρ) : Sub ((x, v) :: R) (rset ρ x v) := fun y bd e => by
  rw [rset_lookup]
  rw [List.lookup_cons] at e
  by_cases q : y = x
  · subst q; simpa using e
  · rw [beq_eq_false_iff_ne.mpr q] at e
    rw [if_neg q]; exact h y bd e
noncomputable abbrev LDp (L : List (List Nat)) : PV := .list (L.map fun s => wsObj (leadW s))
-- of the leads just the last is simple
theorem simple_for (W : WsAt c N mN fI) (glen : GlobV c "len" (.builtin "len")) (R : Rho) (L : List (List Nat)) (hR : R.lookup ("leads" : Str) = some (.val (LDp L))) (hRk : R.lookup ("k" : Str) = none) (hL : L.length < 100000)
    (hs : ∀ (k : Nat) (s : List Nat), L[k]? = some s → decide ((wsF (leadW s)).count.length ≤ 1) = ((k : Int) == (L.length : Int) - 1)) : ∀ (m k : Nat) (ρ : Rho), k + m = L.length → Sub R ρ →
    ∃ ρ', ForEx c bLaw 5 (wTarget fK) (wBody fK) (wElse fK) (rngPs k m) ρ .next ρ' ∧ Sub R ρ'
  | 0, k, ρ, _, h => ⟨ρ, for_nil exec_nil, h⟩
  | m + 1, k, ρ, hk, h => by
    obtain ⟨ρ', g1, g2⟩ := simple_for W glen R L hR hRk hL hs m (k + 1) (rset ρ "k" (.val (.int k))) (by lia) (sub_set h hRk)
    have hkl : k < L.length := by lia
    have hq := hs k _ (List.getElem?_eq_getElem hkl)
    have hit : itemAt (L.map fun s => wsObj (leadW s)) (k : Int) = some (wsObj (leadW L[k])) := by
      refine itemAt_pos (Int.natCast_nonneg k) ?_
      rw [Int.toNat_natCast, List.getElem?_map, List.getElem?_eq_getElem hkl]; rfl
    have hlk : (rset ρ "k" (.val (.int k))).lookup ("leads" : Str) = some (.val (LDp L)) := sub_set h hRk _ _ hR
    have hkk : (rset ρ "k" (.val (.int k))).lookup ("k" : Str) = some (.val (.int k)) := by rw [rset_lookup, if_pos rfl]
    have hkh : (k : Int) < 2 ^ 63 := by lia
    have hlen : Op c 5 (fun vs => call (.builtin "len") vs) [LDp L] (.int L.length) := by
      have := op_len_list (c := c) (d := 5) (L.map fun s => wsObj (leadW s)) (by rw [List.length_map]; lia)
      rw [List.length_map] at this; exact this
    refine ⟨ρ', for_cons (bind_name (by rfl)) (exec_one (ex_if_f (test_cmp (ev_simpleS W (ev_sub (ev_name hlk (by rfl)) (ev_name hkk (by rfl)) (item_list hit (nlo k) hkh)) (by intro _; rfl)) (ev_cmp (ev_name hkk (by rfl)) (ev_bin (ev_call' (ps := [LDp L]) (by rfl) (by rfl) glen (callee_builtin _) (evs_cons' (by rfl) (ev_name hlk (by rfl)) evs_nil) hlen) ev_int (op_sub_int _ _)) (op_eq_int _ _) (by rfl)) ?_ (by rfl)) rfl exec_nil)) g1, g2⟩
    rw [hq]; exact isnot_same _
end
end Mine
open PySem PySem.W PyProof.Rows
open PySem.Builtin PySem.Builtin.Str
set_option Elab.async false
set_option maxRecDepth 100000
set_option linter.unusedVariables false
set_option autoImplicit false
set_option maxHeartbeats 1000000
namespace Mine
section
variable {c : Cx} {b : Blk} {d : Nat} {ρ : Rho}
theorem ev_ifexp_t {test body orelse : Expr} {pos : Pos} {t : Bool} {p : PV} (h1 : Test c b d test ρ t) (ht : t = true) (h2 : Eval c b d body ρ p) : Eval c b d (.IfExp test body orelse pos) ρ p := by subst ht; exact ev_ifexp h1 (by exact h2)
theorem ev_ifexp_f {test body orelse : Expr} {pos : Pos} {t : Bool} {p : PV} (h1 : Test c b d test ρ t) (ht : t = false) (h2 : Eval c b d orelse ρ p) : Eval c b d (.IfExp test body orelse pos) ρ p := by subst ht; exact ev_ifexp h1 (by exact h2)
end
section
variable {c : Cx} {N : Addr} {mN : Str → Option Value} {fI : Addr}
noncomputable abbrev duP (l : List (Int × Int)) : List PV := l.map fun p => dueP p.1 p.2
noncomputable abbrev intP (l : List Int) : PV := .list (l.map PV.int)
noncomputable abbrev enP (l : List (List Nat)) : List PV := l.map wsObj
noncomputable abbrev rR (xs ys : List Int) (en : List (List Nat)) (du : List (Int × Int)) : Rho := [("x", .val (intP xs)), ("y", .val (intP ys)), ("ends", .own (enP en)), ("dues", .own (duP du))]
noncomputable def wordsF (row : List Nat) (xs ys : List Int) : List (List Int) := row.map fun ch => if ch = 120 then xs else ys
theorem words_eval (xs ys : List Int) (en : List (List Nat)) (du : List (Int × Int)) (row : List Nat) (hr : row.length ≤ 100) :
    Comp c bLaw 5 (aVal (nth (wBody fRow) 0)) (("row", .val (.str row)) :: rR xs ys en du) (row.map fun ch => intP (if ch = 120 then xs else ys)) := by
  refine comp_A (v := .str row) row (fun ch => .str [ch]) _ (by (repeat' first | (with_reducible first | exact ev_str | assumption | exact evs_nil | exact op_eq_str _ _) | ((with_reducible apply ev_name) <;> exact rfl) | (with_reducible first | apply ev_call' | apply evs_cons' | apply test_cmp) | ((with_reducible apply Op.le); (with_reducible assumption)) | with_reducible exact nlo _ | with_reducible exact nhi h7 (by assumption) | ((first | with_reducible show (_ ≤ _) | with_reducible show (_ < _)); first | decide | lia) | apply test_cmp | exact rfl | exact fun _ => rfl | exact fun _ _ => rfl | decide | lia | (simp only [List.length_cons, List.length_nil, List.length_append, List.length_map, List.length_replicate]; lia) | (simp_all; done))) trivial rfl ?_ (Nat.le_trans hr (by decide)) (by exact ⟨rfl, rfl, rfl, rfl⟩) (by intro _ _; rfl)
  intro ch _
  have hq : ([ch] == [120]) = decide (ch = 120) := by rw [Bool.eq_iff_iff]; simp
  by_cases h : ch = 120
  · rw [if_pos h]
    exact ev_ifexp_t (test_eq (by (repeat' first | (with_reducible first | exact ev_str | assumption | exact evs_nil | exact op_eq_str _ _) | ((with_reducible apply ev_name) <;> exact rfl) | (with_reducible first | apply ev_call' | apply evs_cons' | apply test_cmp) | ((with_reducible apply Op.le); (with_reducible assumption)) | with_reducible exact nlo _ | with_reducible exact nhi h7 (by assumption) | ((first | with_reducible show (_ ≤ _) | with_reducible show (_ < _)); first | decide | lia) | apply test_cmp | exact rfl | exact fun _ => rfl | exact fun _ _ => rfl | decide | lia | (simp only [List.length_cons, List.length_nil, List.length_append, List.length_map, List.length_replicate]; lia) | (simp_all; done))) (by exact hq.trans (decide_eq_true h))) rfl (ev_name (by rfl) (by rfl))
  · rw [if_neg h]
    exact ev_ifexp_f (test_eq (by (repeat' first | (with_reducible first | exact ev_str | assumption | exact evs_nil | exact op_eq_str _ _) | ((with_reducible apply ev_name) <;> exact rfl) | (with_reducible first | apply ev_call' | apply evs_cons' | apply test_cmp) | ((with_reducible apply Op.le); (with_reducible assumption)) | with_reducible exact nlo _ | with_reducible exact nhi h7 (by assumption) | ((first | with_reducible show (_ ≤ _) | with_reducible show (_ < _)); first | decide | lia) | apply test_cmp | exact rfl | exact fun _ => rfl | exact fun _ _ => rfl | decide | lia | (simp only [List.length_cons, List.length_nil, List.length_append, List.length_map, List.length_replicate]; lia) | (simp_all; done))) (by exact hq.trans (decide_eq_false h))) rfl (ev_name (by rfl) (by rfl))
theorem wordF_flat : ∀ ws : List (List Int), (ws.map wordF).flatten = wordF ws.flatten
  | [] => rfl
  | w :: ws => by
    rw [List.map_cons, List.flatten_cons, wordF_flat ws, List.flatten_cons]
    unfold wordF
    rw [List.map_append, List.flatten_append]
theorem wordF_len (ns : List Int) : (wordF ns).length ≤ 4 * ns.length := by
  unfold wordF
  rw [List.length_flatten]; exact word_sum ns
theorem text_eval {aW : Addr} (gW : GlobV c "_law_word" (.ref aW)) (cW : Callee c (.ref aW)) (oW : ∀ ns : List Int, ns.length ≤ 1000 → Op c 1 (fun vs => call (.ref aW) vs) [intP ns] (.str (wordF ns)))
    (ρ : Rho) (ws : List (List Int)) (hw : ws.length ≤ 100) (hn : ∀ w ∈ ws, w.length ≤ 100) (hlk : ρ.lookup ("words" : Str) = some (.val (wsPV ws))) (hno : noOwn (cut (match aVal (nth (wBody fRow) 1) with
      | .Call _ [.ListComp _ _ sc _] _ _ => sc
      | _ => fScope sLaw) ρ) = true) (hnn : (cut (match aVal (nth (wBody fRow) 1) with
      | .Call _ [.ListComp _ _ sc _] _ _ => sc
      | _ => fScope sLaw) ρ).lookup ("numbers" : Str) = none) :
    Eval c bLaw 5 (aVal (nth (wBody fRow) 1)) ρ (.str (wordF ws.flatten)) := by
  show Eval _ _ _ (.Call _ _ _ _) _ _
  have e0 : (Str.ofString "").cps.toList = [] := rfl
  have hs : ∀ ws : List (List Int), (∀ w ∈ ws, w.length ≤ 100) → ((ws.map wordF).map List.length).sum ≤ 400 * ws.length := by
    intro ws
    induction ws with
    | nil => intro _; exact Nat.le_refl _
    | cons w ws ih =>
      intro h
      have h1 := wordF_len w
      have h2 := h w List.mem_cons_self
      have h3 := ih fun v hv => h v (List.mem_cons_of_mem _ hv)
      rw [List.map_cons, List.map_cons, List.sum_cons, List.length_cons]
      lia
  have hs1 := hs ws hn
  refine ev_eq (ev_join (ls := ws.map wordF) ?_ (by rw [e0, List.length_nil, Nat.mul_zero]; lia) (by rfl) (by intro _; rfl) (by rfl)) (by rw [e0, glue_nil, wordF_flat])
  unfold strL
  rw [List.map_map]
  refine Comp.ev (comp_A (v := wsPV ws) ws (fun w => intP w) _ (ev_name hlk (by rfl)) trivial rfl ?_ (Nat.le_trans hw (by decide)) (by exact ⟨rfl, hno, rfl, hnn⟩) (by intro _ _; rfl))
  intro w hwm
  have hop := oW w (Nat.le_trans (hn w hwm) (by decide))
  show Eval _ _ _ _ _ (.str (wordF w))
  exact ev_call' (ps := [intP w]) (by rfl) (by rfl) gW cW (evs_cons' (by rfl) (ev_name (by rw [rset_lookup, if_pos rfl]) (by rfl)) evs_nil) (hop.le (by decide))
end
end Mine
open PySem PySem.W PyProof.Rows
open PySem.Builtin PySem.Builtin.Str
set_option Elab.async false
set_option maxRecDepth 100000
set_option linter.unusedVariables false
set_option autoImplicit false
set_option maxHeartbeats 1000000
namespace Mine
section
variable {c : Cx} {N : Addr} {mN : Str → Option Value} {fI : Addr}
structure LawAt (c : Cx) (N : Addr) (mN : Str → Option Value) (fI aW aL aD aC : Addr) : Prop where
  W : WsAt c N mN fI
  len : GlobV c "len" (.builtin "len")
  range : GlobV c "range" (.type "range")
  gW : GlobV c "_law_word" (.ref aW)
  cW : Callee c (.ref aW)
  oW : ∀ ns : List Int, ns.length ≤ 1000 → Op c 1 (fun vs => call (.ref aW) vs) [intP ns] (.str (wordF ns))
  gL : GlobV c "_law_leads" (.ref aL)
  cL : Callee c (.ref aL)
  oL : ∀ t : List Nat, t.length < 5000 → (∀ ch ∈ t, ch ≠ 92) → brs (stripF t) → Op c 4 (fun vs => call (.ref aL) vs) [.str t] (.list ((stG (stripF t).length (stripF t)).map fun s => wsObj (leadW s)))
  gD : GlobV c "_law_due" (.ref aD)
  cD : Callee c (.ref aD)
  oD : ∀ ws : List (List Int), Op c 1 (fun vs => call (.ref aD) vs) [wsPV ws] (.tup [.int (dueAll 0 0 ws).1, .int ((dueAll 0 0 ws).1 + (dueAll 0 0 ws).2)])
  gC : GlobV c "_check_parenthesis" (.ref aC)
  cC : Callee c (.ref aC)
  oC : ∀ l : List Nat, l.length < 1000000 → (∀ ch ∈ l, ch ≠ 92) → Op c 4 (fun vs => call (.ref aC) vs) [.str l] (.bool (checkF l))
theorem bit_ch (n : Int) : ∀ ch ∈ bitF n, ch = 40 ∨ ch = 41 ∨ ch = 34 := by
  have h0 : 0 ≤ n % 4 := Int.emod_nonneg _ (by decide)
  have h1 : n % 4 < 4 := Int.emod_lt_of_pos _ (by decide)
  unfold bitF
  obtain ⟨r, hr⟩ : ∃ r : Nat, n % 4 = r := ⟨_, (Int.toNat_of_nonneg h0).symm⟩
  rw [hr] at h1 ⊢
  have h4 : r < 4 := Int.ofNat_lt.mp h1
  rw [Int.toNat_natCast]
  match r, h4 with
  | 0, _ => decide
  | 1, _ => decide
  | 2, _ => decide
  | 3, _ => decide
theorem word_ch (ns : List Int) : ∀ ch ∈ wordF ns, ch = 40 ∨ ch = 41 ∨ ch = 34 := by
  intro ch h
  unfold wordF at h
  obtain ⟨l, hl, h⟩ := List.mem_flatten.mp h
  obtain ⟨n, _, rfl⟩ := List.mem_map.mp hl
  exact bit_ch n ch h
theorem word_92 (ns : List Int) : ∀ ch ∈ wordF ns, ch ≠ 92 := fun ch h e => by rcases word_ch ns ch h with q | q | q <;> rw [e] at q <;> cases q
theorem strip_row (ns : List Int) : stripF (wordF ns) = ns.map sgn := by
  have := strip_word [] [] ns List.not_mem_nil List.not_mem_nil
  rw [List.nil_append, List.append_nil, List.nil_append, List.append_nil] at this
  exact this
theorem brs_row (ns : List Int) : brs (ns.map sgn) := fun x hx => by
  obtain ⟨n, _, rfl⟩ := List.mem_map.mp hx
  rcases sgn_step n with h | h
  · exact .inl h.1
  · exact .inr h.1
/- what a row comes to -/
theorem row_facts (ws : List (List Int)) : ∃ (M : List (List Nat)) (a b : Nat), stG (stripF (wordF ws.flatten)).length (stripF (wordF ws.flatten)) = M ++ [List.replicate a 41 ++ List.replicate b 40] ∧
    (∀ m ∈ M, ∃ p r, m = p ++ ([40, 41] ++ r) ∧ brs (p ++ ([40, 41] ++ r))) ∧ (dueAll 0 0 ws).1 = a ∧ (dueAll 0 0 ws).1 + (dueAll 0 0 ws).2 = b ∧ needB (ws.flatten.map sgn) = a ∧ netB (ws.flatten.map sgn) = (b : Int) - a := by
  rw [strip_row]
  obtain ⟨M, a, b, h1, h2, h3, h4⟩ := stages_ok (ws.flatten.map sgn).length (ws.flatten.map sgn) (Nat.le_refl _) (brs_row _)
  refine ⟨M, a, b, h1, h2, ?_, ?_, h3, h4⟩
  · rw [due_row]; exact h3
  · rw [due_row]
    show needB _ + netB _ = _
    rw [h3, h4]; lia
theorem simple_ok (M : List (List Nat)) (a b : Nat) (h2 : ∀ m ∈ M, ∃ p r, m = p ++ ([40, 41] ++ r) ∧ brs (p ++ ([40, 41] ++ r))) (k : Nat) (s : List Nat) (h : (M ++ [List.replicate a 41 ++ List.replicate b 40])[k]? = some s) :
    decide ((wsF (leadW s)).count.length ≤ 1) = ((k : Int) == ((M ++ [List.replicate a 41 ++ List.replicate b 40]).length : Int) - 1) := by
  have hl : (M ++ [List.replicate a 41 ++ List.replicate b 40]).length = M.length + 1 := by rw [List.length_append]; rfl
  rw [hl]
  by_cases hk : k < M.length
  · rw [List.getElem?_append_left hk] at h
    obtain ⟨p, r, e, hb⟩ := h2 s (List.mem_of_getElem? h)
    have := lead_pair p r hb
    rw [← e] at this
    rw [decide_eq_false (by lia)]
    symm
    rw [beq_eq_false_iff_ne]; lia
  · rw [List.getElem?_append_right (Nat.le_of_not_lt hk)] at h
    have hk0 : k - M.length = 0 := by
      cases q : k - M.length with
      | zero => rfl
      | succ j => rw [q] at h; cases h
    rw [hk0] at h
    injection h with h
    rw [← h, lead_end, decide_eq_true (end_simple a b)]
    symm
    rw [beq_iff_eq]; lia
end
end Mine
open PySem PySem.W PyProof.Rows
open PySem.Builtin PySem.Builtin.Str
set_option Elab.async false
set_option maxRecDepth 100000
set_option linter.unusedVariables false
set_option autoImplicit false
set_option maxHeartbeats 1000000
namespace Mine
section
variable {c : Cx} {N : Addr} {mN : Str → Option Value} {fI aW aL aD aC : Addr}
noncomputable abbrev q3 (xs ys : List Int) (en : List (List Nat)) (du : List (Int × Int)) (T : List Nat) (a b : Nat) : Rho := ("tabs", .val (.int a)) :: ("blanks", .val (.int b)) :: ("text", .val (.str T)) :: rR xs ys en du
noncomputable abbrev q4 (xs ys : List Int) (en : List (List Nat)) (du : List (Int × Int)) (T : List Nat) (a b : Nat) (L : List (List Nat)) : Rho := ("leads", .val (LDp L)) :: q3 xs ys en du T a b
/- '(' * i + text + ')' * j -/
theorem rep_len (x : Nat) (i : Int) (h : i < 5000) : (repL [x] i).length < 5000 := by rw [repL_one, List.length_replicate]; lia
theorem row_check (H : LawAt c N mN fI aW aL aD aC) (xs ys : List Int) (en : List (List Nat)) (du : List (Int × Int)) (T : List Nat) (a b : Nat) (L : List (List Nat)) (hT : T.length < 5000) (ha : a < 5000) (hb : b < 5000) (hT2 : ∀ ch ∈ T, ch ≠ 92)
    (h1 : checkF (List.replicate a 40 ++ (T ++ List.replicate b 41)) = true) (h2 : ∀ a' : Nat, a = a' + 1 → checkF (List.replicate a' 40 ++ (T ++ repL [41] ((b : Int) - 1))) = false) :
    Test c bLaw 5 (wTest (nth (wBody fRow) 6)) (q4 xs ys en du T a b L) false ∧ Test c bLaw 5 (wTest (nth (wBody fRow) 7)) (q4 xs ys en du T a b L) false := by
  have gC := H.gC
  have cC := H.cC
  have hrep : ∀ (x : Nat) (i : Int), x ≠ 92 → ∀ ch ∈ repL [x] i, ch ≠ 92 := fun x i hx ch hch => by rw [repL_one] at hch; rw [List.eq_of_mem_replicate hch]; exact hx
  have go : ∀ (i j : Int), i < 5000 → j < 5000 → Op c 4 (fun vs => call (.ref aC) vs) [.str ((repL [40] i ++ T) ++ repL [41] j)] (.bool (checkF ((repL [40] i ++ T) ++ repL [41] j))) := fun i j hi hj => by
    have r1 := rep_len 40 i hi
    have r2 := rep_len 41 j hj
    refine H.oC _ (by rw [List.length_append, List.length_append]; lia) fun ch hch => ?_
    rcases List.mem_append.mp hch with hch | hch
    · rcases List.mem_append.mp hch with hch | hch
      · exact hrep 40 i (by decide) ch hch
      · exact hT2 ch hch
    · exact hrep 41 j (by decide) ch hch
  have val : ∀ (i j : Int) (e1 e2 : Expr) (k1 k2 : Nat) (p1 p2 p3 p4 p5 p6 p7 : Pos), -(2 ^ 63) ≤ i → i < 5000 → -(2 ^ 63) ≤ j → j < 5000 → Eval c bLaw 5 e1 (q4 xs ys en du T a b L) (.int i) → Eval c bLaw 5 e2 (q4 xs ys en du T a b L) (.int j) →
      Eval c bLaw 5 (.BinOp (.BinOp (.BinOp (.Constant (.str "(") k1 p1) .Mult e1 p2) .Add (.Name "text" p3) p4) .Add (.BinOp (.Constant (.str ")") k2 p5) .Mult e2 p6) p7) (q4 xs ys en du T a b L) (.str ((repL [40] i ++ T) ++ repL [41] j)) := fun i j e1 e2 k1 k2 p1 p2 p3 p4 p5 p6 p7 hi0 hi hj0 hj v1 v2 => by
    have r1 := rep_len 40 i hi
    have r2 := rep_len 41 j hj
    exact ev_bin (p := .str (repL [40] i ++ T)) (q := .str (repL [41] j)) (ev_bin (p := .str (repL [40] i)) (q := .str T) (ev_bin (p := .str [40]) (by exact ev_str) v1 (op_mul_str _ _ hi0 (by lia) (by show 1 * _ ≤ _; lia))) (ev_name (by rfl) (by rfl)) (op_add_str _ _ (by lia))) (ev_bin (p := .str [41]) (by exact ev_str) v2 (op_mul_str _ _ hj0 (by lia) (by show 1 * _ ≤ _; lia))) (op_add_str _ _ (by rw [List.length_append]; lia))
  constructor
  · have hop := go a b (by lia) (by lia)
    rw [repL_one, repL_one, Int.toNat_natCast, Int.toNat_natCast, List.append_assoc, h1] at hop
    have hv := fun e1 e2 k1 k2 p1 p2 p3 p4 p5 p6 p7 => val a b e1 e2 k1 k2 p1 p2 p3 p4 p5 p6 p7 (nlo a) (by lia) (nlo b) (by lia)
    simp only [repL_one, Int.toNat_natCast, List.append_assoc] at hv
    exact test_cmp (ev_call' (ps := [.str (List.replicate a 40 ++ (T ++ List.replicate b 41))]) (by rfl) (by rfl) gC cC (evs_cons' (by rfl) (hv _ _ _ _ _ _ _ _ _ _ _ (ev_name (by rfl) (by rfl)) (ev_name (by rfl) (by rfl))) evs_nil) (hop.le (by decide))) (by exact ev_bool) (isnot_same true) (by rfl)
  · cases a with
    | zero => exact test_and_f (test_eq (test_cmp (ev_name (p := .int ((0 : Nat) : Int)) (by rfl) (by rfl)) ev_int (op_gt_int _ _) (by rfl)) (by decide))
    | succ a' =>
      have hop := go a' ((b : Int) - 1) (by lia) (by lia)
      rw [repL_one 40, Int.toNat_natCast, List.append_assoc, h2 a' rfl] at hop
      have hv := fun e1 e2 k1 k2 p1 p2 p3 p4 p5 p6 p7 => val a' ((b : Int) - 1) e1 e2 k1 k2 p1 p2 p3 p4 p5 p6 p7 (nlo a') (by lia) (by lia) (by lia)
      simp only [repL_one 40, Int.toNat_natCast, List.append_assoc] at hv
      refine test_and_t (test_eq (test_cmp (ev_name (p := .int ((a' + 1 : Nat) : Int)) (by rfl) (by rfl)) ev_int (op_gt_int _ _) (by rfl)) (decide_eq_true (by lia))) (test_and_f ?_)
      exact test_cmp (ev_call' (ps := [.str (List.replicate a' 40 ++ (T ++ repL [41] ((b : Int) - 1)))]) (by rfl) (by rfl) gC cC (evs_cons' (by rfl) (hv _ _ _ _ _ _ _ _ _ _ _ (ev_eq (ev_bin (ev_name (p := .int ((a' + 1 : Nat) : Int)) (by rfl) (by rfl)) ev_int (op_sub_int _ _)) (congrArg PV.int (Int.add_sub_cancel (a' : Int) 1))) (ev_bin (ev_name (by rfl) (by rfl)) ev_int (op_sub_int _ _))) evs_nil) (hop.le (by decide))) (by exact ev_bool) (isnot_same false) (by rfl)
end
end Mine
open PySem PySem.W PyProof.Rows
open PySem.Builtin PySem.Builtin.Str
set_option Elab.async false
set_option maxRecDepth 100000
set_option linter.unusedVariables false
set_option autoImplicit false
set_option maxHeartbeats 1000000
namespace Mine
section
variable {c : Cx} {N : Addr} {mN : Str → Option Value} {fI aW aL aD aC : Addr}
theorem words_len (row : List Nat) (xs ys : List Int) (hx : xs.length ≤ 4) (hy : ys.length ≤ 4) : (∀ w ∈ wordsF row xs ys, w.length ≤ 4) ∧ (wordsF row xs ys).flatten.length ≤ 4 * row.length := by
  have h1 : ∀ w ∈ wordsF row xs ys, w.length ≤ 4 := fun w hw => by
    obtain ⟨ch, _, rfl⟩ := List.mem_map.mp hw
    split
    · exact hx
    · exact hy
  refine ⟨h1, ?_⟩
  have : ∀ ws : List (List Int), (∀ w ∈ ws, w.length ≤ 4) → ws.flatten.length ≤ 4 * ws.length := by
    intro ws
    induction ws with
    | nil => intro _; exact Nat.le_refl _
    | cons w ws ih =>
      intro h
      have e1 := h w List.mem_cons_self
      have e2 := ih fun v hv => h v (List.mem_cons_of_mem _ hv)
      rw [List.flatten_cons, List.length_append, List.length_cons]; lia
  have := this _ h1
  unfold wordsF at this ⊢
  rw [List.length_map] at this
  exact this
theorem row_turn (H : LawAt c N mN fI aW aL aD aC) (xs ys : List Int) (hx : xs.length ≤ 4) (hy : ys.length ≤ 4) (en : List (List Nat)) (du : List (Int × Int)) (hen : en.length < 100) (hdu : du.length < 100) (row : List Nat) (hr : row.length ≤ 10) (ρ : Rho) (hs : Sub (rR xs ys en du) ρ) :
    ∃ ρ' a b, Exec c bLaw 5 (wBody fRow) (rset ρ "row" (.val (.str row))) .next ρ' ∧ Sub (rR xs ys (en ++ [leadW (List.replicate a 41 ++ List.replicate b 40)]) (du ++ [((a : Int), (b : Int))])) ρ' ∧
      needB ((wordsF row xs ys).flatten.map sgn) = (a : Nat) ∧ netB ((wordsF row xs ys).flatten.map sgn) = (b : Int) - (a : Nat) ∧ a < 5000 ∧ b < 5000 := by
  have W := H.W
  have glen := H.len
  have grg := H.range
  obtain ⟨hw1, hw2⟩ := words_len row xs ys hx hy
  have hwl : (wordsF row xs ys).length ≤ 100 := by unfold wordsF; rw [List.length_map]; lia
  have hwe := words_eval (c := c) xs ys en du row (by lia)
  have hwp : row.map (fun ch => intP (if ch = 120 then xs else ys)) = (wordsF row xs ys).map fun w => PV.list (w.map PV.int) := by unfold wordsF; rw [List.map_map]; rfl
  rw [hwp] at hwe
  generalize wordsF row xs ys = ws at hw1 hw2 hwl hwe ⊢
  have hT9 : (wordF ws.flatten).length ≤ 900 := by have := wordF_len ws.flatten; lia
  have hT : (wordF ws.flatten).length < 5000 := by lia
  obtain ⟨M, a, b, f1, f2, f3, f4, f5, f6⟩ := row_facts ws
  have oL := H.oL (wordF ws.flatten) hT (word_92 _) (by rw [strip_row]; exact brs_row _)
  have hmem := stG_mem (stripF (wordF ws.flatten)).length (stripF (wordF ws.flatten)) (by rw [strip_row]; exact brs_row _) (List.replicate a 41 ++ List.replicate b 40) (by rw [f1]; exact List.mem_append.mpr (.inr (List.mem_singleton.mpr rfl)))
  have hab : a + b < 5000 := by
    have h1 := hmem.1
    have h2 := stripF_len (wordF ws.flatten)
    rw [List.length_append, List.length_replicate, List.length_replicate] at h1
    lia
  have hgl := stG_len (stripF (wordF ws.flatten)).length (stripF (wordF ws.flatten))
  have hsl := stripF_len (wordF ws.flatten)
  rw [f1] at oL hgl
  have oD := H.oD ws
  rw [f4, f3] at oD
  obtain ⟨k1, k2⟩ := row_check H xs ys en du (wordF ws.flatten) a b (M ++ [List.replicate a 41 ++ List.replicate b 40]) hT (by lia) (by lia) (word_92 _) (check_row a b ws.flatten f5 f6) (fun a' e => check_less a' _ ws.flatten (by rw [repL_one]; exact fun q => absurd (List.eq_of_mem_replicate q) (by decide)) (by rw [f5, e]))
  have hLlen : (M ++ [List.replicate a 41 ++ List.replicate b 40]).length < 100000 := by lia
  obtain ⟨ρ₁, g1, g2⟩ := simple_for W glen (q4 xs ys en du (wordF ws.flatten) a b (M ++ [List.replicate a 41 ++ List.replicate b 40])) (M ++ [List.replicate a 41 ++ List.replicate b 40]) (by rfl) (by rfl) hLlen (simple_ok M a b f2) (M ++ [List.replicate a 41 ++ List.replicate b 40]).length 0 _ (Nat.zero_add _) (Sub.refl _)
  have hlast : itemAt ((M ++ [List.replicate a 41 ++ List.replicate b 40]).map fun s => wsObj (leadW s)) (-1) = some (wsObj (leadW (List.replicate a 41 ++ List.replicate b 40))) := by rw [List.map_append]; exact itemAt_last _ _
  have hte := text_eval H.gW H.cW H.oW (("words", .val (wsPV ws)) :: rR xs ys en du) ws hwl (fun w h => Nat.le_trans (hw1 w h) (by decide)) (by rfl) (by rfl) (by rfl)
  generalize hL : M ++ [List.replicate a 41 ++ List.replicate b 40] = L at oL hgl k1 k2 hLlen g1 g2 hlast
  have hLo : Op c 5 (fun vs => call (.builtin "len") vs) [LDp L] (.int L.length) := by
    have := op_len_list (c := c) (d := 5) (L.map fun s => wsObj (leadW s)) (by rw [List.length_map]; lia)
    rw [List.length_map] at this; exact this
  have gD := H.gD
  have cD := H.cD
  have gL := H.gL
  have cL := H.cL
  generalize hTT : wordF ws.flatten = T at *
  have ent : (wsF (leadW (List.replicate a 41 ++ List.replicate b 40))).nt = a := by rw [lead_end]
  have enn : (wsF (leadW (List.replicate a 41 ++ List.replicate b 40))).n = a + b := by rw [lead_end]
  refine ⟨("leads", .val (LDp L)) :: rR xs ys (en ++ [leadW (List.replicate a 41 ++ List.replicate b 40)]) (du ++ [((a : Int), (b : Int))]), a, b, ?_, by (repeat' first | exact Sub.nil _ | refine Sub.cons (by rfl) ?_), f5, f6, by lia, by lia⟩
  refine exec_pre (ρ₁ := ("row", .val (.str row)) :: rR xs ys en du) (sub_new hs) ?_
  refine exec_cons (ρ₁ := ("words", .val (wsPV ws)) :: rR xs ys en du) (exec1_post (hwe.ex (by rfl)) (by (repeat' first | exact Sub.nil _ | refine Sub.cons (by rfl) ?_))) ?_
  refine exec_cons (ρ₁ := ("text", .val (.str T)) :: ("words", .val (wsPV ws)) :: rR xs ys en du) (exec1_post (ex_assign_s hte (by rfl) (by intro _ env he; cases env; cases he; rfl)) (by (repeat' first | exact Sub.nil _ | refine Sub.cons (by rfl) ?_))) ?_
  refine exec_cons (ρ₁ := q3 xs ys en du T a b) (exec1_post (ex_assign_all' (p := .tup [.int a, .int b]) (ev_call' (ps := [wsPV ws]) (by rfl) (by rfl) gD cD (evs_cons' (by rfl) (ev_name (by rfl) (by rfl)) evs_nil) (oD.le (by decide))) (.one (bind_tup (binds_cons (bind_name (by rfl)) (binds_cons (bind_name (by rfl)) binds_nil)) (by rfl) (by rfl))) (by rfl) (by intro _ env he; cases env; cases he; rfl) (by intro env he; cases env; cases he; rfl)) (by (repeat' first | exact Sub.nil _ | refine Sub.cons (by rfl) ?_))) ?_
  refine exec_cons (ρ₁ := q4 xs ys en du T a b L) (exec1_post (ex_assign (p := LDp L) (ev_call' (ps := [.str T]) (by rfl) (by rfl) gL cL (evs_cons' (by rfl) (ev_name (by rfl) (by rfl)) evs_nil) (oL.le (by decide))) (by rfl) (by intro _ _; rfl)) (by (repeat' first | exact Sub.nil _ | refine Sub.cons (by rfl) ?_))) ?_
  refine exec_cons (ρ₁ := ρ₁) (ex_rng0 (n := L.length) (ev_call' (ps := [.int L.length]) (by rfl) (by rfl) grg (callee_type _) (evs_cons' (by rfl) (ev_call' (ps := [LDp L]) (by rfl) (by rfl) glen (callee_builtin _) (evs_cons' (by rfl) (ev_name (by rfl) (by rfl)) evs_nil) hLo) evs_nil) (op_range1 _)) (by lia) g1 (by intro _ _; rfl)) (exec_pre g2 ?_)
  refine exec_cons (ρ₁ := q4 xs ys en du T a b L) (ex_if_f (test_or_f (test_eq (test_cmp (p := .int ((wsF (leadW (List.replicate a 41 ++ List.replicate b 40))).nt : Nat)) (q := .int a) (ev_ntS W (ev_sub (ev_name (p := LDp L) (by rfl) (by rfl)) (by (repeat' first | (with_reducible first | exact ev_int | assumption | exact evs_nil | exact op_neg_int _ | exact op_add_int _ _ | exact op_ne_int _ _ | exact test_or_nil | exact op_range1 _ | exact callee_builtin _ | exact callee_type _) | ((with_reducible apply ev_name) <;> exact rfl) | (with_reducible first | apply ev_bin | apply ev_un | apply ev_sub | apply ev_tup' | apply ev_call' | apply evs_cons' | apply op_len_list | apply test_cmp | apply ex_assign) | ((with_reducible apply Op.le); (with_reducible assumption)) | ((with_reducible first | apply item_list); (· first | assumption | rfl)) | with_reducible exact nlo _ | with_reducible exact nhi h7 (by assumption) | ((first | with_reducible show (_ ≤ _) | with_reducible show (_ < _)); first | decide | lia) | apply test_cmp | exact rfl | exact fun _ => rfl | exact fun _ _ => rfl | decide | lia | (simp only [List.length_cons, List.length_nil, List.length_append, List.length_map, List.length_replicate]; lia) | (simp_all; done))) (item_list hlast (by decide) (by decide))) (by intro _; rfl)) (ev_name (by rfl) (by rfl)) (op_ne_int _ _) (by rfl)) (by rw [ent, bne_self_eq_false])) (test_or_f (test_eq (test_cmp (p := .int ((wsF (leadW (List.replicate a 41 ++ List.replicate b 40))).n : Nat)) (q := .int ((a : Int) + b)) (ev_nS W (ev_sub (ev_name (p := LDp L) (by rfl) (by rfl)) (by (repeat' first | (with_reducible first | exact ev_int | assumption | exact evs_nil | exact op_neg_int _ | exact op_add_int _ _ | exact op_ne_int _ _ | exact test_or_nil | exact op_range1 _ | exact callee_builtin _ | exact callee_type _) | ((with_reducible apply ev_name) <;> exact rfl) | (with_reducible first | apply ev_bin | apply ev_un | apply ev_sub | apply ev_tup' | apply ev_call' | apply evs_cons' | apply op_len_list | apply test_cmp | apply ex_assign) | ((with_reducible apply Op.le); (with_reducible assumption)) | ((with_reducible first | apply item_list); (· first | assumption | rfl)) | with_reducible exact nlo _ | with_reducible exact nhi h7 (by assumption) | ((first | with_reducible show (_ ≤ _) | with_reducible show (_ < _)); first | decide | lia) | apply test_cmp | exact rfl | exact fun _ => rfl | exact fun _ _ => rfl | decide | lia | (simp only [List.length_cons, List.length_nil, List.length_append, List.length_map, List.length_replicate]; lia) | (simp_all; done))) (item_list hlast (by decide) (by decide))) (by intro _; rfl)) (by (repeat' first | (with_reducible first | exact ev_int | assumption | exact evs_nil | exact op_neg_int _ | exact op_add_int _ _ | exact op_ne_int _ _ | exact test_or_nil | exact op_range1 _ | exact callee_builtin _ | exact callee_type _) | ((with_reducible apply ev_name) <;> exact rfl) | (with_reducible first | apply ev_bin | apply ev_un | apply ev_sub | apply ev_tup' | apply ev_call' | apply evs_cons' | apply op_len_list | apply test_cmp | apply ex_assign) | ((with_reducible apply Op.le); (with_reducible assumption)) | ((with_reducible first | apply item_list); (· first | assumption | rfl)) | with_reducible exact nlo _ | with_reducible exact nhi h7 (by assumption) | ((first | with_reducible show (_ ≤ _) | with_reducible show (_ < _)); first | decide | lia) | apply test_cmp | exact rfl | exact fun _ => rfl | exact fun _ _ => rfl | decide | lia | (simp only [List.length_cons, List.length_nil, List.length_append, List.length_map, List.length_replicate]; lia) | (simp_all; done))) (op_ne_int _ _) (by rfl)) (by rw [enn, Int.natCast_add, bne_self_eq_false])) test_or_nil)) rfl exec_nil) ?_
  refine exec_cons (ex_if_f k1 rfl exec_nil) (exec_cons (ex_if_f k2 rfl exec_nil) ?_)
  have ee : enP (en ++ [leadW (List.replicate a 41 ++ List.replicate b 40)]) = enP en ++ [wsObj (leadW (List.replicate a 41 ++ List.replicate b 40))] := by unfold enP; rw [List.map_append]; rfl
  have ed : duP (du ++ [((a : Int), (b : Int))]) = duP du ++ [dueP a b] := by unfold duP; rw [List.map_append]; rfl
  refine exec_cons (ex_append (x := "ends") (l := enP en) (p := wsObj (leadW (List.replicate a 41 ++ List.replicate b 40))) rfl (ev_sub (ev_name (p := LDp L) (by rfl) (by rfl)) (by (repeat' first | (with_reducible first | exact ev_int | assumption | exact evs_nil | exact op_neg_int _ | exact op_add_int _ _ | exact op_ne_int _ _ | exact test_or_nil | exact op_range1 _ | exact callee_builtin _ | exact callee_type _) | ((with_reducible apply ev_name) <;> exact rfl) | (with_reducible first | apply ev_bin | apply ev_un | apply ev_sub | apply ev_tup' | apply ev_call' | apply evs_cons' | apply op_len_list | apply test_cmp | apply ex_assign) | ((with_reducible apply Op.le); (with_reducible assumption)) | ((with_reducible first | apply item_list); (· first | assumption | rfl)) | with_reducible exact nlo _ | with_reducible exact nhi h7 (by assumption) | ((first | with_reducible show (_ ≤ _) | with_reducible show (_ < _)); first | decide | lia) | apply test_cmp | exact rfl | exact fun _ => rfl | exact fun _ _ => rfl | decide | lia | (simp only [List.length_cons, List.length_nil, List.length_append, List.length_map, List.length_replicate]; lia) | (simp_all; done))) (item_list hlast (by decide) (by decide))) (by rfl) (by unfold enP; rw [List.length_map]; lia) (by rfl) (by rfl)) ?_
  refine exec_post (exec_one (ex_append (x := "dues") (l := duP du) (p := dueP a b) rfl (by (repeat' first | (with_reducible first | exact ev_int | assumption | exact evs_nil | exact op_neg_int _ | exact op_add_int _ _ | exact op_ne_int _ _ | exact test_or_nil | exact op_range1 _ | exact callee_builtin _ | exact callee_type _) | ((with_reducible apply ev_name) <;> exact rfl) | (with_reducible first | apply ev_bin | apply ev_un | apply ev_sub | apply ev_tup' | apply ev_call' | apply evs_cons' | apply op_len_list | apply test_cmp | apply ex_assign) | ((with_reducible apply Op.le); (with_reducible assumption)) | ((with_reducible first | apply item_list); (· first | assumption | rfl)) | with_reducible exact nlo _ | with_reducible exact nhi h7 (by assumption) | ((first | with_reducible show (_ ≤ _) | with_reducible show (_ < _)); first | decide | lia) | apply test_cmp | exact rfl | exact fun _ => rfl | exact fun _ _ => rfl | decide | lia | (simp only [List.length_cons, List.length_nil, List.length_append, List.length_map, List.length_replicate]; lia) | (simp_all; done))) (by rfl) (by unfold duP; rw [List.length_map]; lia) (by rfl) (by rfl))) ?_
  unfold rR
  rw [ee, ed]
  (repeat' first | exact Sub.nil _ | refine Sub.cons (by rfl) ?_)
end
end Mine
open PySem PySem.W PyProof.Rows
open PySem.Builtin PySem.Builtin.Str
set_option Elab.async false
set_option maxRecDepth 100000
set_option linter.unusedVariables false
set_option autoImplicit false
set_option maxHeartbeats 1000000
namespace Mine
theorem peq_int (x y : Int) : peq (.int x) (.int y) = (x == y) := by
  simp only [peq, pd, PyData.eqv]
theorem peq_nil : peq (.list []) (.list []) = true := by decide
theorem peq_due (a b a' b' : Nat) : peq (dueP a b) (dueP a' b') = (decide (a = a') && decide (b = b')) := by
  rw [peq_tup, peq_cons_list, peq_cons_list, peq_nil, peq_int, peq_int, Bool.and_true, Bool.eq_iff_iff, Bool.and_eq_true, Bool.and_eq_true, beq_iff_eq, beq_iff_eq, decide_eq_true_eq, decide_eq_true_eq, Int.ofNat_inj, Int.ofNat_inj]
theorem peq_tri : ∀ l : List (Int × Int × Int), peq (.list (triPV l)) (.list (triPV l)) = true
  | [] => peq_nil
  | p :: l => by
    show peq (.list (.tup [.int p.1, .int p.2.1, .int p.2.2] :: triPV l)) (.list (.tup [.int p.1, .int p.2.1, .int p.2.2] :: triPV l)) = true
    rw [peq_cons_list, peq_tri l, Bool.and_true, peq_tup, peq_cons_list, peq_cons_list, peq_cons_list, peq_nil, peq_int, peq_int, peq_int, beq_self_eq_true, beq_self_eq_true, beq_self_eq_true]; rfl
theorem num_tri (l : List (Int × Int × Int)) : numD 8 (.list (triPV l)) = true := by
  show (List.all _ _) = true
  rw [List.all_eq_true]; intro p hp
  obtain ⟨b, _, rfl⟩ := List.mem_map.mp hp
  rfl
noncomputable abbrev endL (p : Nat × Nat) : List Nat := leadW (List.replicate p.1 41 ++ List.replicate p.2 40)
theorem endL_len (p : Nat × Nat) : (endL p).length = p.1 + p.2 + 1 := by
  show (leadW _).length = _
  rw [leadW_map, List.length_append, List.length_map, List.length_map, List.length_append, List.length_replicate, List.length_replicate]; rfl
section
variable {c : Cx} {N : Addr} {mN : Str → Option Value} {fI aW aL aD aC fE fW aX : Addr}
structure LawBt (c : Cx) (N : Addr) (mN : Str → Option Value) (fI aW aL aD aC fE fW aX : Addr) : Prop where
  H : LawAt c N mN fI aW aL aD aC
  mE : MethAt c mN "equal" fE
  oE : ∀ a b : List Nat, Op c 1 (fun vs => call (.ref fE) vs) [wsObj a, wsObj b] (.bool (eqS (wsF a) (wsF b)))
  mW : MethAt c mN "not_equal_witness" fW
  oW : ∀ a b : List Nat, a.length < 900000 → b.length < 900000 → Op c 2 (fun vs => call (.ref fW) vs) [wsObj a, wsObj b] (.list (triPV (witF (wsF a) (wsF b))))
  gX : GlobV c "_law_witness" (.ref aX)
  cX : Callee c (.ref aX)
  oX : ∀ t1 b1 t2 b2 : Int, 0 ≤ b1 → 0 ≤ b2 → b1 < 10000 → b2 < 10000 → Op c 1 (fun vs => call (.ref aX) vs) [dueP t1 b1, dueP t2 b2] (.list (triPV (witL t1 b1 t2 b2)))
noncomputable abbrev fOut : Stmt := lS 5
noncomputable abbrev fIn : Stmt := nth (wBody fOut) 0
noncomputable abbrev EnP (ps : List (Nat × Nat)) : PV := .list (ps.map fun p => wsObj (endL p))
noncomputable abbrev DuP (ps : List (Nat × Nat)) : PV := .list (ps.map fun p => dueP p.1 p.2)
noncomputable abbrev rE (ps : List (Nat × Nat)) : Rho := [("ends", .val (EnP ps)), ("dues", .val (DuP ps))]
noncomputable abbrev rI (ps : List (Nat × Nat)) (i : Nat) : Rho := ("i", .val (.int i)) :: rE ps
theorem at_map {α : Type} (f : α → PV) {l : List α} {i : Nat} {p : α} (h : l[i]? = some p) : itemAt (l.map f) (i : Int) = some (f p) := by
  refine itemAt_pos (Int.natCast_nonneg i) ?_
  rw [Int.toNat_natCast, List.getElem?_map, h]; rfl
theorem pair_turn (K : LawBt c N mN fI aW aL aD aC fE fW aX) (ps : List (Nat × Nat)) (i j : Nat) (p q : Nat × Nat) (hi : ps[i]? = some p) (hj : ps[j]? = some q) (hi1 : i ≤ 1000) (hj1 : j ≤ 1000) (hp : p.1 < 5000 ∧ p.2 < 5000) (hq : q.1 < 5000 ∧ q.2 < 5000) :
    Exec c bLaw 5 (wBody fIn) (("j", .val (.int j)) :: rI ps i) .next (rI ps i) := by
  have W := K.H.W
  have e1 := at_map (fun p => wsObj (endL p)) hi
  have e2 := at_map (fun p => wsObj (endL p)) hj
  have d1 := at_map (fun p => dueP p.1 p.2) hi
  have d2 := at_map (fun p => dueP p.1 p.2) hj
  have hi6 := len63 hi1
  have hj6 := len63 hj1
  have lp : (endL p).length < 900000 := by rw [endL_len]; lia
  have lq : (endL q).length < 900000 := by rw [endL_len]; lia
  have o1 := K.oE (endL p) (endL q)
  have o3 := K.oW (endL p) (endL q) lp lq
  rw [lead_end, lead_end] at o1 o3
  rw [end_eq] at o1
  rw [end_wit] at o3
  have o2 := op_eq_num (c := c) (dueP p.1 p.2) (dueP q.1 q.2) rfl rfl
  rw [peq_due] at o2
  have o4 := K.oX p.1 p.2 q.1 q.2 (Int.natCast_nonneg _) (Int.natCast_nonneg _) (by lia) (by lia)
  have o5 := op_ne_num (c := c) _ _ (num_tri (witL p.1 p.2 q.1 q.2)) (num_tri (witL p.1 p.2 q.1 q.2))
  rw [peq_tri] at o5
  refine exec_post (exec_cons (ρ₁ := ("j", .val (.int j)) :: rI ps i) (ex_if_f (t := false) (test_cmp (ev_methO' (ps := [wsObj (endL q)]) W.hC K.mE (by decide) (by rfl) (by decide) (ev_sub (ev_name (p := EnP ps) (by rfl) (by rfl)) (ev_name (p := .int i) (by rfl) (by rfl)) (item_list e1 (nlo i) hi6)) (evs_cons' (by rfl) (ev_sub (ev_name (p := EnP ps) (by rfl) (by rfl)) (ev_name (p := .int j) (by rfl) (by rfl)) (item_list e2 (nlo j) hj6)) evs_nil) (o1.le (by decide)) (by intro _; rfl) (by rfl))
    (ev_cmp (ev_sub (ev_name (p := DuP ps) (by rfl) (by rfl)) (ev_name (p := .int i) (by rfl) (by rfl)) (item_list d1 (nlo i) hi6)) (ev_sub (ev_name (p := DuP ps) (by rfl) (by rfl)) (ev_name (p := .int j) (by rfl) (by rfl)) (item_list d2 (nlo j) hj6)) o2 (by rfl)) (isnot_same _) (by rfl)) rfl exec_nil) (exec_one (ex_if_f (t := false) (test_cmp (ev_methO' (ps := [wsObj (endL q)]) W.hC K.mW (by decide) (by rfl) (by decide) (ev_sub (ev_name (p := EnP ps) (by rfl) (by rfl)) (ev_name (p := .int i) (by rfl) (by rfl)) (item_list e1 (nlo i) hi6)) (evs_cons' (by rfl) (ev_sub (ev_name (p := EnP ps) (by rfl) (by rfl)) (ev_name (p := .int j) (by rfl) (by rfl)) (item_list e2 (nlo j) hj6)) evs_nil) (o3.le (by decide)) (by intro _; rfl) (by rfl))
    (ev_call' (ps := [dueP p.1 p.2, dueP q.1 q.2]) (by rfl) (by rfl) K.gX K.cX (evs_cons' (by rfl) (ev_sub (ev_name (p := DuP ps) (by rfl) (by rfl)) (ev_name (p := .int i) (by rfl) (by rfl)) (item_list d1 (nlo i) hi6)) (evs_cons' (by rfl) (ev_sub (ev_name (p := DuP ps) (by rfl) (by rfl)) (ev_name (p := .int j) (by rfl) (by rfl)) (item_list d2 (nlo j) hj6)) evs_nil)) (o4.le (by decide))) o5 (by rfl)) rfl exec_nil))) (by (repeat' first | exact Sub.nil _ | refine Sub.cons (by rfl) ?_))
theorem in_for (K : LawBt c N mN fI aW aL aD aC fE fW aX) (ps : List (Nat × Nat)) (hl : ps.length ≤ 1000) (hb : ∀ p ∈ ps, p.1 < 5000 ∧ p.2 < 5000) (i : Nat) (hi : i < ps.length) : ∀ (m k : Nat) (ρ : Rho), k + m ≤ ps.length → Sub (rI ps i) ρ →
    ∃ ρ', ForEx c bLaw 5 (wTarget fIn) (wBody fIn) (wElse fIn) (rngPs k m) ρ .next ρ' ∧ Sub (rI ps i) ρ'
  | 0, k, ρ, _, h => ⟨ρ, for_nil exec_nil, h⟩
  | m + 1, k, ρ, hk, h => by
    obtain ⟨ρ', g1, g2⟩ := in_for K ps hl hb i hi m (k + 1) (rI ps i) (by lia) (Sub.refl _)
    have hkl : k < ps.length := by lia
    exact ⟨ρ', for_cons (bind_name (by rfl)) (exec_pre (sub_new h) (pair_turn K ps i k _ _ (List.getElem?_eq_getElem hi) (List.getElem?_eq_getElem hkl) (Nat.le_trans (Nat.le_of_lt hi) hl) (Nat.le_trans (Nat.le_of_lt hkl) hl) (hb _ (List.getElem_mem hi)) (hb _ (List.getElem_mem hkl)))) g1, g2⟩
theorem out_for (K : LawBt c N mN fI aW aL aD aC fE fW aX) (ps : List (Nat × Nat)) (hl : ps.length ≤ 1000) (hb : ∀ p ∈ ps, p.1 < 5000 ∧ p.2 < 5000) : ∀ (m k : Nat) (ρ : Rho), k + m ≤ ps.length → Sub (rE ps) ρ →
    ∃ ρ', ForEx c bLaw 5 (wTarget fOut) (wBody fOut) (wElse fOut) (rngPs k m) ρ .next ρ' ∧ Sub (rE ps) ρ'
  | 0, k, ρ, _, h => ⟨ρ, for_nil exec_nil, h⟩
  | m + 1, k, ρ, hk, h => by
    have hkl : k < ps.length := by lia
    obtain ⟨ρ₁, f1, f2⟩ := in_for K ps hl hb k hkl k 0 (rI ps k) (by lia) (Sub.refl _)
    obtain ⟨ρ', g1, g2⟩ := out_for K ps hl hb m (k + 1) (rE ps) (by lia) (Sub.refl _)
    have grg := K.H.range
    exact ⟨ρ', for_cons (ρ₁ := rE ps) (bind_name (by rfl)) (exec_pre (sub_new h) (exec_post (exec_one (ex_rng0 (n := k) (by (repeat' first | (with_reducible first | assumption | exact evs_nil | exact op_range1 _ | exact callee_type _) | ((with_reducible apply ev_name) <;> exact rfl) | (with_reducible first | apply ev_cmp | apply ev_sub | apply ev_call' | apply evs_cons' | apply test_cmp) | ((with_reducible apply Op.le); (with_reducible assumption)) | ((with_reducible first | apply item_list); (· first | assumption | rfl)) | with_reducible exact nlo _ | with_reducible exact nhi h7 (by assumption) | ((first | with_reducible show (_ ≤ _) | with_reducible show (_ < _)); first | decide | lia) | apply test_cmp | exact rfl | exact fun _ => rfl | exact fun _ _ => rfl | decide | lia | (simp only [List.length_cons, List.length_nil, List.length_append, List.length_map, List.length_replicate]; lia) | (simp_all; done))) (Nat.le_trans (Nat.le_of_lt hkl) hl) f1 (by intro _ _; rfl))) (fun y bd e => f2 y bd (by
      rw [List.lookup_cons]
      by_cases w : y = "i"
      · subst w; cases e
      · rw [beq_eq_false_iff_ne.mpr w]; exact e)))) g1, g2⟩
end
end Mine
open PySem PySem.W PyProof.Rows
open PySem.Builtin PySem.Builtin.Str
set_option Elab.async false
set_option maxRecDepth 100000
set_option linter.unusedVariables false
set_option autoImplicit false
set_option maxHeartbeats 1000000
namespace Mine
section
variable {c : Cx} {N : Addr} {mN : Str → Option Value} {fI aW aL aD aC fE fW aX : Addr}
noncomputable abbrev row0 : List Nat := [120, 121, 121, 120, 120, 121, 120, 121, 121, 120]
noncomputable abbrev row1 : List Nat := [120, 121, 121, 120, 121, 120, 120, 121, 121, 120]
theorem rows_same (xs ys : List Int) : needB ((wordsF row0 xs ys).flatten.map sgn) = needB ((wordsF row1 xs ys).flatten.map sgn) ∧ netB ((wordsF row0 xs ys).flatten.map sgn) = netB ((wordsF row1 xs ys).flatten.map sgn) := by
  have h0 : (wordsF row0 xs ys).flatten = xs ++ (ys ++ (ys ++ (xs ++ (xs ++ (ys ++ (xs ++ (ys ++ (ys ++ (xs ++ []))))))))) := rfl
  have h1 : (wordsF row1 xs ys).flatten = xs ++ (ys ++ (ys ++ (xs ++ (ys ++ (xs ++ (xs ++ (ys ++ (ys ++ (xs ++ []))))))))) := rfl
  rw [h0, h1]
  simp only [List.append_nil, List.map_append]
  exact adjan _ _
theorem last_ok (K : LawBt c N mN fI aW aL aD aC fE fW aX) (p q r : Nat × Nat) (hp : p.1 < 5000 ∧ p.2 < 5000) :
    Ret c bLaw 5 [lS 6] (rE [p, p, q, r]) (.bool true) := by
  have W := K.H.W
  have e1 : itemAt ([p, p, q, r].map fun p => wsObj (endL p)) (0 : Int) = some (wsObj (endL p)) := rfl
  have e2 : itemAt ([p, p, q, r].map fun p => wsObj (endL p)) (1 : Int) = some (wsObj (endL p)) := rfl
  have lp : (endL p).length < 900000 := by rw [endL_len]; lia
  have o1 := K.oE (endL p) (endL p)
  have o3 := K.oW (endL p) (endL p) lp lp
  rw [lead_end] at o1 o3
  rw [end_eq, decide_eq_true rfl, decide_eq_true rfl] at o1
  rw [end_wit, wit_same] at o3
  have o5 := op_eq_num (c := c) (.list []) (.list []) rfl rfl
  rw [peq_nil] at o5
  exact ret_ret (ev_and_t (ev_cmp (ev_methO' (ps := [wsObj (endL p)]) W.hC K.mE (by decide) (by rfl) (by decide) (ev_sub (ev_name (p := EnP [p, p, q, r]) (by rfl) (by rfl)) ev_int (item_list e1 (by decide) (by decide))) (evs_cons' (by rfl) (ev_sub (ev_name (p := EnP [p, p, q, r]) (by rfl) (by rfl)) ev_int (item_list e2 (by decide) (by decide))) evs_nil) (o1.le (by decide)) (by intro _; rfl) (by rfl)) (by exact ev_bool) (is_same true) (by rfl)) (tr_bool true)
    (ev_and_one (ev_cmp (ev_methO' (ps := [wsObj (endL p)]) W.hC K.mW (by decide) (by rfl) (by decide) (ev_sub (ev_name (p := EnP [p, p, q, r]) (by rfl) (by rfl)) ev_int (item_list e1 (by decide) (by decide))) (evs_cons' (by rfl) (ev_sub (ev_name (p := EnP [p, p, q, r]) (by rfl) (by rfl)) ev_int (item_list e2 (by decide) (by decide))) evs_nil) (o3.le (by decide)) (by intro _; rfl) (by rfl)) (ev_list' (by decide) evs_nil) o5 (by rfl))))
theorem law_ok {aLaw : Addr} (K : LawBt c N mN fI aW aL aD aC fE fW aX) (fn : FnAt c aLaw ["script"] (fBody sLaw) (fScope sLaw)) (sc : List Int) (hsc : sc.length ≤ 63) :
    Op c 6 (fun vs => call (.ref aLaw) vs) [.list (sc.map .int)] (.bool true) := by
  refine fn_ret fn (by rfl) (by rfl) ?_
  have H := K.H
  have grg := H.range
  have h1000 : sc.length ≤ 1000 := Nat.le_trans hsc (by decide)
  have hx : (evF 0 sc ++ [1]).length ≤ 4 := by rw [List.length_append]; exact Nat.succ_le_succ (evF_len 0 sc)
  have hy : (evF 1 sc ++ [2]).length ≤ 4 := by rw [List.length_append]; exact Nat.succ_le_succ (evF_len 1 sc)
  have ex : (evF 0 sc ++ [1]).map PV.int = (evF 0 sc).map PV.int ++ [.int 1] := by rw [List.map_append]; rfl
  have ey : (evF 1 sc ++ [2]).map PV.int = (evF 1 sc).map PV.int ++ [.int 2] := by rw [List.map_append]; rfl
  have l0 : ((evF 0 sc).map PV.int).length + [PV.int 1].length ≤ 16777216 := by rw [List.length_map]; exact Nat.le_trans (Nat.succ_le_succ (evF_len 0 sc)) (by decide)
  have l1 : ((evF 1 sc).map PV.int).length + [PV.int 2].length ≤ 16777216 := by rw [List.length_map]; exact Nat.le_trans (Nat.succ_le_succ (evF_len 1 sc)) (by decide)
  have c0 := ev_slice (c := c) 0 sc h1000
  have c1 := ev_slice (c := c) 1 sc h1000
  refine ret_cons (ρ₁ := [("script", .val (.list (sc.map .int))), ("x", .val (intP (evF 0 sc ++ [1])))]) (by
    refine ex_assign (p := intP (evF 0 sc ++ [1])) ?_ (by rfl) (by intro _ _; rfl)
    unfold intP; rw [ex]
    exact ev_bin (ev_cut' (ev_name (by rfl) (by rfl)) (part_some ev_int) (part_some ev_int) (part_some ev_int) c0) (ev_list' (by show 1 ≤ _; decide) (evs_cons' (by rfl) ev_int evs_nil)) (op_add_list _ _ l0)) ?_
  refine ret_cons (ρ₁ := [("x", .val (intP (evF 0 sc ++ [1]))), ("y", .val (intP (evF 1 sc ++ [2])))]) (exec1_post (by
    refine ex_assign (p := intP (evF 1 sc ++ [2])) ?_ (by rfl) (by intro _ _; rfl)
    unfold intP; rw [ey]
    exact ev_bin (ev_cut' (ev_name (by rfl) (by rfl)) (part_some ev_int) (part_some ev_int) (part_some ev_int) c1) (ev_list' (by show 1 ≤ _; decide) (evs_cons' (by rfl) ev_int evs_nil)) (op_add_list _ _ l1)) (by (repeat' first | exact Sub.nil _ | refine Sub.cons (by rfl) ?_))) ?_
  clear ex ey l0 l1 c0 c1
  generalize evF 0 sc ++ [1] = xs at hx ⊢
  generalize evF 1 sc ++ [2] = ys at hy ⊢
  refine ret_cons (ρ₁ := [("x", .val (intP xs)), ("y", .val (intP ys)), ("ends", .own [])]) (by exact ex_own (l := []) (new_list (ps := []) (by (repeat' first | (with_reducible first | exact ev_int | exact ev_str | exact ev_bool | assumption | exact evs_nil | exact tr_bool _ | exact op_range2 _ _ | exact callee_type _) | ((with_reducible apply ev_name) <;> exact rfl) | (with_reducible first | apply ev_bin | apply ev_cmp | apply ev_cut' | apply ev_sub | apply ev_list' | apply ev_call' | apply evs_cons' | apply part_some | apply op_add_list | apply ex_assign) | ((with_reducible apply Op.le); (with_reducible assumption)) | ((with_reducible first | apply item_list); (· first | assumption | rfl)) | with_reducible exact nlo _ | with_reducible exact nhi h7 (by assumption) | ((first | with_reducible show (_ ≤ _) | with_reducible show (_ < _)); first | decide | lia) | apply test_cmp | exact rfl | exact fun _ => rfl | exact fun _ _ => rfl | decide | lia | (simp only [List.length_cons, List.length_nil, List.length_append, List.length_map, List.length_replicate]; lia) | (simp_all; done))) (by decide)) (by rfl) (by intro _ _; rfl)) ?_
  refine ret_cons (ρ₁ := rR xs ys [] []) (by exact ex_own (l := []) (new_list (ps := []) (by (repeat' first | (with_reducible first | exact ev_int | exact ev_str | exact ev_bool | assumption | exact evs_nil | exact tr_bool _ | exact op_range2 _ _ | exact callee_type _) | ((with_reducible apply ev_name) <;> exact rfl) | (with_reducible first | apply ev_bin | apply ev_cmp | apply ev_cut' | apply ev_sub | apply ev_list' | apply ev_call' | apply evs_cons' | apply part_some | apply op_add_list | apply ex_assign) | ((with_reducible apply Op.le); (with_reducible assumption)) | ((with_reducible first | apply item_list); (· first | assumption | rfl)) | with_reducible exact nlo _ | with_reducible exact nhi h7 (by assumption) | ((first | with_reducible show (_ ≤ _) | with_reducible show (_ < _)); first | decide | lia) | apply test_cmp | exact rfl | exact fun _ => rfl | exact fun _ _ => rfl | decide | lia | (simp only [List.length_cons, List.length_nil, List.length_append, List.length_map, List.length_replicate]; lia) | (simp_all; done))) (by decide)) (by rfl) (by intro _ _; rfl)) ?_
  obtain ⟨ρ0, a0, b0, t0, s0, n0, m0, u0, v0⟩ := row_turn H xs ys hx hy [] [] (by decide) (by decide) row0 (by decide) (rR xs ys [] []) (Sub.refl _)
  obtain ⟨ρ1, a1, b1, t1, s1, n1, m1, u1, v1⟩ := row_turn H xs ys hx hy _ _ (by show 1 < 100; decide) (by show 1 < 100; decide) row1 (by decide) ρ0 s0
  obtain ⟨ρ2, a2, b2, t2, s2, n2, m2, u2, v2⟩ := row_turn H xs ys hx hy _ _ (by show 2 < 100; decide) (by show 2 < 100; decide) [120, 121] (by decide) ρ1 s1
  obtain ⟨ρ3, a3, b3, t3, s3, n3, m3, u3, v3⟩ := row_turn H xs ys hx hy _ _ (by show 3 < 100; decide) (by show 3 < 100; decide) [121, 120] (by decide) ρ2 s2
  obtain ⟨r1, r2⟩ := rows_same xs ys
  rw [n0, n1] at r1
  rw [m0, m1] at r2
  have ea : a1 = a0 := by lia
  have eb : b1 = b0 := by lia
  subst ea; subst eb
  refine ret_cons (ρ₁ := ρ3) (ex_for (p := .list (strL [row0, row1, [120, 121], [121, 120]])) (ev_list' (by show 4 ≤ _; decide) (evs_cons' (by rfl) (by exact ev_str) (evs_cons' (by rfl) (by exact ev_str) (evs_cons' (by rfl) (by exact ev_str) (evs_cons' (by rfl) (by exact ev_str) evs_nil))))) trivial (for_cons (bind_name (by rfl)) t0 (for_cons (bind_name (by rfl)) t1 (for_cons (bind_name (by rfl)) t2 (for_cons (bind_name (by rfl)) t3 (for_nil exec_nil))))) (by intro _ _; rfl)) (ret_pre s3 ?_)
  refine ret_freeze (x := "ends") rfl (ret_freeze (x := "dues") rfl ?_)
  have hb : ∀ p ∈ [(a1, b1), (a1, b1), (a2, b2), (a3, b3)], p.1 < 5000 ∧ p.2 < 5000 := by
    intro p hp
    simp only [List.mem_cons, List.not_mem_nil, or_false] at hp
    rcases hp with rfl | rfl | rfl | rfl
    · exact ⟨u0, v0⟩
    · exact ⟨u0, v0⟩
    · exact ⟨u2, v2⟩
    · exact ⟨u3, v3⟩
  obtain ⟨ρ4, t4, s4⟩ := out_for K [(a1, b1), (a1, b1), (a2, b2), (a3, b3)] (by show 4 ≤ _; decide) hb 2 2 (rE [(a1, b1), (a1, b1), (a2, b2), (a3, b3)]) (Nat.le_refl 4) (Sub.refl _)
  refine ret_pre (ρ₁ := rE [(a1, b1), (a1, b1), (a2, b2), (a3, b3)]) (by (repeat' first | exact Sub.nil _ | refine Sub.cons (by rfl) ?_)) ?_
  refine ret_cons (ρ₁ := ρ4) (ex_for (p := .rng 2 4) (by (repeat' first | (with_reducible first | exact ev_int | exact ev_str | exact ev_bool | assumption | exact evs_nil | exact tr_bool _ | exact op_range2 _ _ | exact callee_type _) | ((with_reducible apply ev_name) <;> exact rfl) | (with_reducible first | apply ev_bin | apply ev_cmp | apply ev_cut' | apply ev_sub | apply ev_list' | apply ev_call' | apply evs_cons' | apply part_some | apply op_add_list | apply ex_assign) | ((with_reducible apply Op.le); (with_reducible assumption)) | ((with_reducible first | apply item_list); (· first | assumption | rfl)) | with_reducible exact nlo _ | with_reducible exact nhi h7 (by assumption) | ((first | with_reducible show (_ ≤ _) | with_reducible show (_ < _)); first | decide | lia) | apply test_cmp | exact rfl | exact fun _ => rfl | exact fun _ _ => rfl | decide | lia | (simp only [List.length_cons, List.length_nil, List.length_append, List.length_map, List.length_replicate]; lia) | (simp_all; done))) (by show _ ∧ _; decide) t4 (by intro _ _; rfl)) (ret_pre s4 ?_)
  exact last_ok K (a1, b1) (a2, b2) (a3, b3) ⟨u0, v0⟩
end
end Mine
open PySem PySem.W PyProof.Rows
open PySem.Builtin PySem.Builtin.Str
set_option Elab.async false
set_option maxRecDepth 100000
set_option linter.unusedVariables false
set_option autoImplicit false
set_option maxHeartbeats 1000000
namespace Mine
theorem rs_of_ints {c : Cx} {h : Heap} {M : Mut} {vs : List Value} {ns : List Int} (x : IntsAre vs ns) : Rs c h M (ns.map .int) vs := by
  induction x with
  | nil => exact .nil
  | cons n t _ ih => exact .cons (.int n t) ih
theorem room_caller (d : Nat) (hd : d ≤ 20) : Room d callerA := by
  refine ⟨rfl, ?_, ?_⟩
  · show callerA.depth + 8 * d < recursionLimit
    have : callerA.depth + 160 < recursionLimit := by decide
    lia
  · show callerA.units + 60 * d + 100 < cLine
    have : callerA.units + 1300 < cLine := by decide
    lia
theorem law_close {c : Cx} {d : Nat} {a sa : Addr} {ns : List Int} {vs : List Value} {s1 : Shared} {claim : ClaimW} {cl : Str → Option Addr} {mean : ExcName → Option Value} {args : List WData} (hop : Op c d (fun vs => call (.ref a) vs) [.list (ns.map .int)] (.bool true)) (hd : d ≤ 20)
    (hh : c.h1 = s1.heap) (hscr : s1.heap.get? sa = some (listObj vs 0)) (hI : IntsAre vs ns) (htk : 1 ≤ s1.toks) (hg : s1.gens = #[]) (hr : ∀ cls, claim.raises args cls = false) (hp : claim.post args (.bool true) args = true) :
    W c callerA (call (.ref a) [.ref sa]) (fun x s' => GoodWG claim cl mean args s1 (.ok (.ret x)) s') s1 := by
  refine hop.run callerA (fun _ => False) s1 [.ref sa] _ (room_caller d hd) ⟨by rw [hh]; exact fun _ _ e => e, fun _ h => h.elim, htk, fun _ h => h.elim⟩ (.cons (.list (fun h => h) hscr (rs_of_ints hI)) .nil) fun v s' e r => ?_
  cases r
  exact ⟨.inl ⟨_, _, [], rfl, hr, ReadsW.bool true, hp, fun _ => ⟨List.nodup_nil, fun _ hm => (nomatch hm)⟩⟩, OldK.of_keep e.keep, e.os, e.bare (by rw [hg]; exact AllBare.empty)⟩
end Mine
end

open PySem PySem.W PyProof.Rows
open PySem.W.X PySem.W.ZRun
set_option Elab.async false
set_option maxRecDepth 100000
set_option linter.unusedVariables false
set_option maxHeartbeats 8000000 in
theorem PySem.Challenge.cw_rl0098_01_holds : PySem.Challenge.rw_rl0098_01.Holds := by
  w_on; o_law; z_head; (case hw => w_witness2)
  k_fill
  intro w s0 s1 mg mb G y fa o pm cd doc dV kV ho hd hcd hD hmg hg args vals as L hpre hlay hrd hwl hlo
  z_open y L KX ZH ZN ZT
  refine Ground.open G ?_
  intro T B D TE TW
  wrow_args hpre hlay hrd hwl hlo
  obtain ⟨hat, hsz⟩ := script_at L
  have htk := script_toks L ZT
  rw [ZN] at hat hsz
  subst hat
  x_fa T KX hmg
  have hscr := script_obj L (by assumption)
  have HG := T.g
  have HB := T.b
  have LIM := T.nolimit
  have hns : s1.heap.Ns 110 (s1.heap.nsMap 110) := .of_isNs (isNs_of_in KX (by kernel_rfl))
  have glen : Mine.GlobV ⟨PySem.Challenge.rw_rl0098_01.row.prog, w, s1.heap, 111⟩ "len" (.builtin "len") := Mine.blt_of KX HG HB (by kernel_rfl) (by kernel_rfl)
  have gmax : Mine.GlobV ⟨PySem.Challenge.rw_rl0098_01.row.prog, w, s1.heap, 111⟩ "max" (.builtin "max") := Mine.blt_of KX HG HB (by kernel_rfl) (by kernel_rfl)
  have grange : Mine.GlobV ⟨PySem.Challenge.rw_rl0098_01.row.prog, w, s1.heap, 111⟩ "range" (.type "range") := Mine.blt_of KX HG HB (by kernel_rfl) (by kernel_rfl)
  have gtuple : Mine.GlobV ⟨PySem.Challenge.rw_rl0098_01.row.prog, w, s1.heap, 111⟩ "tuple" (.type "tuple") := Mine.blt_of KX HG HB (by kernel_rfl) (by kernel_rfl)
  have genum : Mine.GlobV ⟨PySem.Challenge.rw_rl0098_01.row.prog, w, s1.heap, 111⟩ "enumerate" (.type "enumerate") := Mine.blt_of KX HG HB (by kernel_rfl) (by kernel_rfl)
  have fE : Mine.FnAt ⟨PySem.Challenge.rw_rl0098_01.row.prog, w, s1.heap, 111⟩ 49 ["want", "got"] (Mine.fBody Mine.sEll) (Mine.fScope Mine.sEll) := Mine.fnAt_of KX LIM (by rfl) (by rfl) (by rfl) (by rfl) (by rfl) (by rfl) (by rfl) (by kernel_rfl) (Mine.bind2 fun a b => by rfl)
  have fG : Mine.FnAt ⟨PySem.Challenge.rw_rl0098_01.row.prog, w, s1.heap, 111⟩ 28 ["addr"] (Mine.fBody Mine.sEsc) (Mine.fScope Mine.sEsc) := Mine.fnAt_of KX LIM (by rfl) (by rfl) (by rfl) (by rfl) (by rfl) (by rfl) (by rfl) (by kernel_rfl) (Mine.bind1 fun a => by rfl)
  have fSp : Mine.FnAt ⟨PySem.Challenge.rw_rl0098_01.row.prog, w, s1.heap, 111⟩ 35 ["addr"] (Mine.fBody Mine.sStrip) (Mine.fScope Mine.sStrip) := Mine.fnAt_of KX LIM (by rfl) (by rfl) (by rfl) (by rfl) (by rfl) (by rfl) (by rfl) (by kernel_rfl) (Mine.bind1 fun a => by rfl)
  have fCk : Mine.FnAt ⟨PySem.Challenge.rw_rl0098_01.row.prog, w, s1.heap, 111⟩ 42 ["addr"] (Mine.fBody Mine.sCheck) (Mine.fScope Mine.sCheck) := Mine.fnAt_of KX LIM (by rfl) (by rfl) (by rfl) (by rfl) (by rfl) (by rfl) (by rfl) (by kernel_rfl) (Mine.bind1 fun a => by rfl)
  have fIn : Mine.FnAt ⟨PySem.Challenge.rw_rl0098_01.row.prog, w, s1.heap, 111⟩ 66 ["self", "ws"] (Mine.fBody Mine.sInit) (Mine.fScope Mine.sInit) := Mine.fnAt_of KX LIM (by rfl) (by rfl) (by rfl) (by rfl) (by rfl) (by rfl) (by rfl) (by kernel_rfl) (Mine.bind2 fun a b => by rfl)
  have fLo : Mine.FnAt ⟨PySem.Challenge.rw_rl0098_01.row.prog, w, s1.heap, 111⟩ 73 ["self"] (Mine.fBody Mine.sLong) (Mine.fScope Mine.sLong) := Mine.fnAt_of KX LIM (by rfl) (by rfl) (by rfl) (by rfl) (by rfl) (by rfl) (by rfl) (by kernel_rfl) (Mine.bind1 fun a => by rfl)
  have fId : Mine.FnAt ⟨PySem.Challenge.rw_rl0098_01.row.prog, w, s1.heap, 111⟩ 80 ["self", "tabsize"] (Mine.fBody Mine.sIndent) (Mine.fScope Mine.sIndent) := Mine.fnAt_of KX LIM (by rfl) (by rfl) (by rfl) (by rfl) (by rfl) (by rfl) (by rfl) (by kernel_rfl) (Mine.bind2 fun a b => by rfl)
  have fEq : Mine.FnAt ⟨PySem.Challenge.rw_rl0098_01.row.prog, w, s1.heap, 111⟩ 87 ["self", "other"] (Mine.fBody Mine.sEqual) (Mine.fScope Mine.sEqual) := Mine.fnAt_of KX LIM (by rfl) (by rfl) (by rfl) (by rfl) (by rfl) (by rfl) (by rfl) (by kernel_rfl) (Mine.bind2 fun a b => by rfl)
  have fWi : Mine.FnAt ⟨PySem.Challenge.rw_rl0098_01.row.prog, w, s1.heap, 111⟩ 94 ["self", "other"] (Mine.fBody Mine.sWitness) (Mine.fScope Mine.sWitness) := Mine.fnAt_of KX LIM (by rfl) (by rfl) (by rfl) (by rfl) (by rfl) (by rfl) (by rfl) (by kernel_rfl) (Mine.bind2 fun a b => by rfl)
  have fWo : Mine.FnAt ⟨PySem.Challenge.rw_rl0098_01.row.prog, w, s1.heap, 111⟩ 120 ["numbers"] (Mine.fBody Mine.sWord) (Mine.fScope Mine.sWord) := Mine.fnAt_of KX LIM (by rfl) (by rfl) (by rfl) (by rfl) (by rfl) (by rfl) (by rfl) (by kernel_rfl) (Mine.bind1 fun a => by rfl)
  have fLd : Mine.FnAt ⟨PySem.Challenge.rw_rl0098_01.row.prog, w, s1.heap, 111⟩ 125 ["text"] (Mine.fBody Mine.sLeads) (Mine.fScope Mine.sLeads) := Mine.fnAt_of KX LIM (by rfl) (by rfl) (by rfl) (by rfl) (by rfl) (by rfl) (by rfl) (by kernel_rfl) (Mine.bind1 fun a => by rfl)
  have fDu : Mine.FnAt ⟨PySem.Challenge.rw_rl0098_01.row.prog, w, s1.heap, 111⟩ 132 ["words"] (Mine.fBody Mine.sDue) (Mine.fScope Mine.sDue) := Mine.fnAt_of KX LIM (by rfl) (by rfl) (by rfl) (by rfl) (by rfl) (by rfl) (by rfl) (by kernel_rfl) (Mine.bind1 fun a => by rfl)
  have fWl : Mine.FnAt ⟨PySem.Challenge.rw_rl0098_01.row.prog, w, s1.heap, 111⟩ 137 ["one", "other"] (Mine.fBody Mine.sWitL) (Mine.fScope Mine.sWitL) := Mine.fnAt_of KX LIM (by rfl) (by rfl) (by rfl) (by rfl) (by rfl) (by rfl) (by rfl) (by kernel_rfl) (Mine.bind2 fun a b => by rfl)
  have fLaw : Mine.FnAt ⟨PySem.Challenge.rw_rl0098_01.row.prog, w, s1.heap, 111⟩ 142 ["script"] (Mine.fBody Mine.sLaw) (Mine.fScope Mine.sLaw) := Mine.fnAt_of KX LIM (by rfl) (by rfl) (by rfl) (by rfl) (by rfl) (by rfl) (by rfl) (by kernel_rfl) (Mine.bind1 fun a => by rfl)
  have WS : Mine.WsAt ⟨PySem.Challenge.rw_rl0098_01.row.prog, w, s1.heap, 111⟩ 110 (s1.heap.nsMap 110) 66 := {
    hC := ⟨⟨⟨_, _, _, _, _, _, _, _, _, _, _, _, KX 111 _ (by rfl)⟩, hns⟩, ns_none_of KX hns (by kernel_rfl), ns_none_of KX hns (by kernel_rfl), ns_none_of KX hns (by kernel_rfl)⟩
    glob := Mine.glob_of KX HG (by kernel_rfl)
    S := ⟨_, Mine.clsAttr_of (fun h hk => KX.keeps hk) (mc := .type "type") (by kernel_rfl) (by rfl) (by rfl)⟩
    T := ⟨_, Mine.clsAttr_of (fun h hk => KX.keeps hk) (mc := .type "type") (by kernel_rfl) (by rfl) (by rfl)⟩
    init := Mine.ns_some_of KX hns (by kernel_rfl)
    fi := ⟨_, KX 66 _ (by rfl), by rfl⟩
    fn := fIn
    len := glen
    tuple := gtuple
    raw := ns_none_of KX hns (by kernel_rfl)
    n := ns_none_of KX hns (by kernel_rfl)
    nt := ns_none_of KX hns (by kernel_rfl)
    norm := ns_none_of KX hns (by kernel_rfl)
    simple := ns_none_of KX hns (by kernel_rfl) }
  have hE : Mine.EscAt ⟨PySem.Challenge.rw_rl0098_01.row.prog, w, s1.heap, 111⟩ 28 := ⟨fG, Mine.glob_of KX HG (by kernel_rfl), genum⟩
  have gSp : Mine.GlobV ⟨PySem.Challenge.rw_rl0098_01.row.prog, w, s1.heap, 111⟩ "_strip_quoted_realnames" (.ref 35) := Mine.glob_of KX HG (by kernel_rfl)
  have mI : Mine.MethAt ⟨PySem.Challenge.rw_rl0098_01.row.prog, w, s1.heap, 111⟩ (s1.heap.nsMap 110) "indent_level" 80 := Mine.meth_of (y := none) KX hns (by kernel_rfl) (by rfl) (by rfl) (by rfl) (by rw [typeLookup_type, builtinLookup_eq_fast]; kernel_rfl)
  have mO : Mine.MethAt ⟨PySem.Challenge.rw_rl0098_01.row.prog, w, s1.heap, 111⟩ (s1.heap.nsMap 110) "longest_run_of_spaces" 73 := Mine.meth_of (y := none) KX hns (by kernel_rfl) (by rfl) (by rfl) (by rfl) (by rw [typeLookup_type, builtinLookup_eq_fast]; kernel_rfl)
  obtain ⟨tM, gM⟩ : ∃ t, Mine.GlobV ⟨PySem.Challenge.rw_rl0098_01.row.prog, w, s1.heap, 111⟩ "ELLIPSIS_MARKER" (.str (Mine.txt Mine.MK) t) := ⟨_, Mine.glob_of KX HG (by rfl)⟩
  have LA : Mine.LawAt ⟨PySem.Challenge.rw_rl0098_01.row.prog, w, s1.heap, 111⟩ 110 (s1.heap.nsMap 110) 66 120 125 132 42 := {
    W := WS, len := glen, range := grange
    gW := Mine.glob_of KX HG (by kernel_rfl), cW := Mine.callee_fn fWo, oW := fun ns h => Mine.op_word fWo ns h
    gL := Mine.glob_of KX HG (by kernel_rfl), cL := Mine.callee_fn fLd, oL := fun t h1 h2 h3 => Mine.op_leads WS fLd (Mine.glob_of KX HG (by kernel_rfl)) (Mine.callee_fn fE) (fun want got a b => Mine.op_ell fE glen gM want got a b) gSp (Mine.callee_fn fSp) (fun l a b => Mine.op_strip fSp hE glen l a b) t h1 h2 h3
    gD := Mine.glob_of KX HG (by kernel_rfl), cD := Mine.callee_fn fDu, oD := fun ws => Mine.op_due fDu gmax ws
    gC := Mine.glob_of KX HG (by kernel_rfl), cC := Mine.callee_fn fCk, oC := fun l h1 h2 => Mine.op_check fCk hE fSp gSp glen l h1 h2 }
  have KB : Mine.LawBt ⟨PySem.Challenge.rw_rl0098_01.row.prog, w, s1.heap, 111⟩ 110 (s1.heap.nsMap 110) 66 120 125 132 42 87 94 137 := {
    H := LA
    mE := Mine.meth_of (y := none) KX hns (by kernel_rfl) (by rfl) (by rfl) (by rfl) (by rw [typeLookup_type, builtinLookup_eq_fast]; kernel_rfl)
    oE := Mine.op_equal WS fEq
    mW := Mine.meth_of (y := none) KX hns (by kernel_rfl) (by rfl) (by rfl) (by rfl) (by rw [typeLookup_type, builtinLookup_eq_fast]; kernel_rfl)
    oW := fun a b ha hb => Mine.op_witness WS fWi gmax grange mI (fun ws ts h1 h2 h3 => Mine.op_indent WS fId grange ws h1 ts h2 h3) mO (fun ws h => Mine.op_long WS fLo gmax ws h) a b ha hb
    gX := Mine.glob_of KX HG (by kernel_rfl), cX := Mine.callee_fn fWl
    oX := fun t1 b1 t2 b2 h1 h2 h3 h4 => Mine.op_witL fWl gmax grange t1 b1 t2 b2 h1 h2 h3 h4 }
  rename IntsAre _ _ => hI
  refine wpAny_mono (Mine.law_close (Mine.law_ok KB fLaw _ ?len) (by decide) rfl hscr hI (Nat.le_trans (by decide) htk) hg (fun _ => rfl) (by kernel_rfl)) (fun _ _ q => q) fun _ _ q => q.elim
  omega
