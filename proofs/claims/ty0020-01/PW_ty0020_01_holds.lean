import PyProof.Rows.All
import Wide.All
import OpenK.AllK
import Wide.FinOn
import Lean
import PySem.Challenge.RW_ty0020_01
set_option Elab.async false
set_option linter.all false

section
open PySem PySem.Calls PyProof.Rows
namespace Mine
inductive BindC {α β : Type} (o : Option α) (f : α → Option β) (b : β) : Prop
  | mk (a : α) (h : o = some a) (e : f a = some b) : BindC o f b
theorem obind {α β : Type} {o : Option α} {f : α → Option β} {b : β} (h : o.bind f = some b) : BindC o f b := by
  cases o with
  | none => cases h
  | some a => exact ⟨a, rfl, h⟩
inductive MapC {α β : Type} (o : Option α) (f : α → β) (b : β) : Prop
  | mk (a : α) (h : o = some a) (e : f a = b) : MapC o f b
theorem omap {α β : Type} {o : Option α} {f : α → β} {b : β} (h : o.map f = some b) : MapC o f b := by
  cases o with
  | none => cases h
  | some a => exact ⟨a, rfl, Option.some.inj h⟩
theorem iteC {α : Type} {c : Prop} [Decidable c] {a b : α} (h : (if c then some a else none) = some b) : c ∧ a = b := by
  split at h
  · exact ⟨‹c›, Option.some.inj h⟩
  · cases h
theorem iteN {α : Type} {c : Prop} [Decidable c] {a b : α} (h : (if c then none else some a) = some b) : ¬ c ∧ a = b := by
  split at h
  · cases h
  · exact ⟨‹¬ c›, Option.some.inj h⟩
section
variable {α : Type} {l : List α}
theorem len_succ {n : Nat} (h : l.length = n + 1) : ∃ a r, l = a :: r ∧ r.length = n := by
  cases l with
  | nil => cases h
  | cons a r => exact ⟨a, r, rfl, Nat.succ.inj h⟩
theorem len1 (h : l.length = 1) : ∃ a, l = [a] := by
  obtain ⟨a, r, rfl, h'⟩ := len_succ h
  cases List.eq_nil_of_length_eq_zero h'
  exact ⟨a, rfl⟩
theorem len2 (h : l.length = 2) : ∃ a b, l = [a, b] := by
  obtain ⟨a, r, rfl, h'⟩ := len_succ h
  obtain ⟨b, rfl⟩ := len1 h'
  exact ⟨a, b, rfl⟩
theorem len3 (h : l.length = 3) : ∃ a b c, l = [a, b, c] := by
  obtain ⟨a, r, rfl, h'⟩ := len_succ h
  obtain ⟨b, c, rfl⟩ := len2 h'
  exact ⟨a, b, c, rfl⟩
theorem len4 (h : l.length = 4) : ∃ a b c d, l = [a, b, c, d] := by
  obtain ⟨a, r, rfl, h'⟩ := len_succ h
  obtain ⟨b, c, d, rfl⟩ := len3 h'
  exact ⟨a, b, c, d, rfl⟩
theorem len_add {n : Nat} {f : List α → Prop} (h : l.length = n + 4) (k : ∀ a b c d r, r.length = n → f (a :: b :: c :: d :: r)) : f l := by
  obtain ⟨a, r, rfl, h1⟩ := len_succ h
  obtain ⟨b, r, rfl, h2⟩ := len_succ h1
  obtain ⟨c, r, rfl, h3⟩ := len_succ h2
  obtain ⟨d, r, rfl, h4⟩ := len_succ h3
  exact k a b c d r h4
end
inductive DV where
  | undef | none | bool (b : Bool) | int (i : Int) | str (x : Str) | tup (ds : List DV) | lst (ds : List DV) | rng (a st : Int) (n : Nat) | air
noncomputable def sizeB : Nat := 2 ^ 20
mutual
inductive Rel (h : Heap) (X : Addr → Prop) (aA : Option Addr) : Value → DV → Prop
  | none : Rel h X aA .none .none
  | bool (b : Bool) : Rel h X aA (.bool b) (.bool b)
  | int (i : Int) (t : Tok) : Rel h X aA (.int i t) (.int i)
  | str (x : Str) (t : Tok) : x.length ≤ sizeB → Rel h X aA (.str x t) (.str x)
  | tup {a : Addr} {vs : List Value} {ds : List DV} : ¬ X a → IsTup h a vs.toArray → vs.length ≤ sizeB → RelL h X aA vs ds → Rel h X aA (.ref a) (.tup ds)
  | lst {a : Addr} {vs : List Value} {ds : List DV} : ¬ X a → h.PlainList a vs.toArray → vs.length ≤ sizeB → RelL h X aA vs ds → Rel h X aA (.ref a) (.lst ds)
  | rng {r : Addr} {a b st : Int} {t u v : Tok} {n : Nat} : ¬ X r → IsRange h r a b st t u v → Builtin.Range.small a b st = true → Builtin.Range.rangeSize a b st = (n : Int) → n ≤ sizeB → Rel h X aA (.ref r) (.rng a st n)
  | air {a : Addr} : aA = some a → Rel h X aA (.ref a) .air
inductive RelL (h : Heap) (X : Addr → Prop) (aA : Option Addr) : List Value → List DV → Prop
  | nil : RelL h X aA [] []
  | cons {v : Value} {d : DV} {vs : List Value} {ds : List DV} : Rel h X aA v d → RelL h X aA vs ds → RelL h X aA (v :: vs) (d :: ds)
end
section
variable {h h' : Heap} {X X' : Addr → Prop} {aA aA' : Option Addr}
theorem rng_at {r : Addr} {a b c : Int} {t u v : Tok} (x : IsRange h r a b c t u v) (hk : ∀ o, h.get? r = some o → h'.get? r = some o) : IsRange h' r a b c t u v := hk _ x
theorem tup_at {a : Addr} {items : Array Value} (x : IsTup h a items) (hk : ∀ o, h.get? a = some o → h'.get? a = some o) : IsTup h' a items := let ⟨o, e, r⟩ := x; ⟨o, hk o e, r⟩
theorem Rel.mono (hk : ∀ b o, h.get? b = some o → ¬ X b → h'.get? b = some o) (hx : ∀ b o, h.get? b = some o → ¬ X b → ¬ X' b) (ha : ∀ a, aA = some a → aA' = some a)
    {v : Value} {d : DV} (r : Rel h X aA v d) : Rel h' X' aA' v d :=
  Rel.rec (motive_1 := fun v d _ => Rel h' X' aA' v d) (motive_2 := fun vs ds _ => RelL h' X' aA' vs ds) .none .bool .int .str
    (fun nx it hl _ r => .tup (hx _ _ it.choose_spec.1 nx) (tup_at it fun o e => hk _ o e nx) hl r)
    (fun nx it hl _ r => .lst (hx _ _ it.choose_spec nx) (it.at fun o e => hk _ o e nx) hl r)
    (fun nx it a b c => .rng (hx _ _ it nx) (rng_at it fun o e => hk _ o e nx) a b c)
    (fun e => .air (ha _ e)) .nil (fun _ _ a b => .cons a b) r
theorem RelL.mono (hk : ∀ b o, h.get? b = some o → ¬ X b → h'.get? b = some o) (hx : ∀ b o, h.get? b = some o → ¬ X b → ¬ X' b) (ha : ∀ a, aA = some a → aA' = some a)
    {vs : List Value} : ∀ {ds : List DV}, RelL h X aA vs ds → RelL h' X' aA' vs ds := by
  induction vs with
  | nil => intro ds r; cases r; exact .nil
  | cons u vs ih => intro ds r; cases r with | cons a r => exact .cons (a.mono hk hx ha) (ih r)
theorem Rel.noneC {motive : (v : Value) → Rel h X aA v .none → Prop} (none : motive .none .none) {v : Value} (r : Rel h X aA v .none) : motive v r := by cases r; exact none
theorem Rel.boolC {x : Bool} {motive : (v : Value) → Rel h X aA v (.bool x) → Prop} (bool : motive (.bool x) (.bool x)) {v : Value} (r : Rel h X aA v (.bool x)) : motive v r := by cases r; exact bool
theorem Rel.intC {i : Int} {motive : (v : Value) → Rel h X aA v (.int i) → Prop} (int : ∀ t, motive (.int i t) (.int i t)) {v : Value} (r : Rel h X aA v (.int i)) : motive v r := by cases r with | int i t => exact int t
theorem Rel.strC {x : Str} {motive : (v : Value) → Rel h X aA v (.str x) → Prop} (str : ∀ t l, motive (.str x t) (.str x t l)) {v : Value} (r : Rel h X aA v (.str x)) : motive v r := by cases r with | str x t l => exact str t l
theorem Rel.tupC {ds : List DV} {motive : (v : Value) → Rel h X aA v (.tup ds) → Prop} (tup : ∀ {a : Addr} {vs : List Value} (n : ¬ X a) (p : IsTup h a vs.toArray) (z : vs.length ≤ sizeB) (q : RelL h X aA vs ds), motive (.ref a) (.tup n p z q)) {v : Value} (r : Rel h X aA v (.tup ds)) : motive v r := by cases r with | tup n p z q => exact tup n p z q
theorem Rel.lstC {ds : List DV} {motive : (v : Value) → Rel h X aA v (.lst ds) → Prop} (lst : ∀ {a : Addr} {vs : List Value} (n : ¬ X a) (p : h.PlainList a vs.toArray) (z : vs.length ≤ sizeB) (q : RelL h X aA vs ds), motive (.ref a) (.lst n p z q)) {v : Value} (r : Rel h X aA v (.lst ds)) : motive v r := by cases r with | lst n p z q => exact lst n p z q
theorem Rel.rngC {x st : Int} {n : Nat} {motive : (v : Value) → Rel h X aA v (.rng x st n) → Prop} (rng : ∀ {r : Addr} {b : Int} {t u v : Tok} (nx : ¬ X r) (i : IsRange h r x b st t u v) (s : Builtin.Range.small x b st = true) (z : Builtin.Range.rangeSize x b st = (n : Int)) (l : n ≤ sizeB), motive (.ref r) (.rng nx i s z l)) {v : Value} (r : Rel h X aA v (.rng x st n)) : motive v r := by cases r with | rng nx i s z l => exact rng nx i s z l
theorem Rel.airC {motive : (v : Value) → Rel h X aA v .air → Prop} (air : ∀ {a : Addr} (e : aA = some a), motive (.ref a) (.air e)) {v : Value} (r : Rel h X aA v .air) : motive v r := by cases r with | air e => exact air e
theorem RelL.nilC {motive : (vs : List Value) → RelL h X aA vs [] → Prop} (nil : motive [] .nil) {vs : List Value} (r : RelL h X aA vs []) : motive vs r := by cases r; exact nil
theorem RelL.consC {d : DV} {ds : List DV} {motive : (vs : List Value) → RelL h X aA vs (d :: ds) → Prop} (cons : ∀ {v : Value} {vs : List Value} (a : Rel h X aA v d) (r : RelL h X aA vs ds), motive (v :: vs) (.cons a r)) {vs : List Value} (r : RelL h X aA vs (d :: ds)) : motive vs r := by cases r with | cons a r => exact cons a r
theorem Rel.keeps (hk : ∀ b o, h.get? b = some o → h'.get? b = some o) {v : Value} {d : DV} (r : Rel h X aA v d) : Rel h' X aA v d :=
  r.mono (fun b o e _ => hk b o e) (fun _ _ _ n => n) fun _ e => e
theorem RelL.keeps (hk : ∀ b o, h.get? b = some o → h'.get? b = some o) {vs : List Value} {ds : List DV} (r : RelL h X aA vs ds) : RelL h' X aA vs ds :=
  r.mono (fun b o e _ => hk b o e) (fun _ _ _ n => n) fun _ e => e
theorem RelL.length {vs : List Value} : ∀ {ds : List DV}, RelL h X aA vs ds → vs.length = ds.length := by
  induction vs with
  | nil => intro ds r; cases r; rfl
  | cons u vs ih => intro ds r; cases r with | cons a r => exact congrArg (· + 1) (ih r)
theorem RelL.get {vs : List Value} : ∀ {ds : List DV}, RelL h X aA vs ds → ∀ {i : Nat} {d : DV}, ds[i]? = some d → ∃ v, vs[i]? = some v ∧ Rel h X aA v d := by
  induction vs with
  | nil => intro ds r i d e; cases r; cases e
  | cons u vs ih =>
    intro ds r i d e
    cases r with
    | cons a r =>
      cases i with
      | zero => cases e; exact ⟨_, rfl, a⟩
      | succ i => exact ih r (i := i) e
theorem RelL.get' {vs : List Value} : ∀ {ds : List DV}, RelL h X aA vs ds → ∀ {i : Nat} {v : Value}, vs[i]? = some v → ∃ d, ds[i]? = some d ∧ Rel h X aA v d := by
  induction vs with
  | nil => intro ds _ i v e; cases e
  | cons u vs ih =>
    intro ds r i v e
    cases r with
    | cons a r =>
      cases i with
      | zero => cases e; exact ⟨_, rfl, a⟩
      | succ i => exact ih r (i := i) e
theorem RelL.append {vs vs' : List Value} : ∀ {ds ds' : List DV}, RelL h X aA vs ds → RelL h X aA vs' ds' → RelL h X aA (vs ++ vs') (ds ++ ds') := by
  induction vs with
  | nil => intro ds ds' r q; cases r; exact q
  | cons u vs ih => intro ds ds' r q; cases r with | cons a r => exact .cons a (ih r q)
theorem RelL.drop : ∀ (n : Nat) {vs : List Value} {ds : List DV}, RelL h X aA vs ds → RelL h X aA (vs.drop n) (ds.drop n)
  | 0, _, _, r => by simpa using r
  | n + 1, _, _, .nil => by simpa using RelL.nil
  | n + 1, _, _, .cons _ r => by simpa using r.drop n
theorem RelL.take : ∀ (n : Nat) {vs : List Value} {ds : List DV}, RelL h X aA vs ds → RelL h X aA (vs.take n) (ds.take n)
  | 0, _, _, _ => by simpa using RelL.nil
  | n + 1, _, _, .nil => by simpa using RelL.nil
  | n + 1, _, _, .cons a r => by simpa using RelL.cons a (r.take n)
noncomputable def asInts : List DV → Option (List Int)
  | [] => some []
  | .int i :: r => (asInts r).map (i :: ·)
  | _ :: _ => none
theorem asInts_cons {d : DV} {r : List DV} {ns : List Int} (e : asInts (d :: r) = some ns) : ∃ i m, d = .int i ∧ asInts r = some m ∧ ns = i :: m := by
  cases d
  case int i =>
    obtain ⟨m, e', rfl⟩ := omap (show (asInts r).map (i :: ·) = some ns from e)
    exact ⟨i, m, rfl, e', rfl⟩
  all_goals exact nomatch (show (none : Option (List Int)) = some ns from e)
theorem RelL.areInts {vs : List Value} : ∀ {ds : List DV} {ns : List Int}, RelL h X aA vs ds → Mine.asInts ds = some ns → IntsAre vs ns := by
  induction vs with
  | nil => intro ds ns r e; cases r; cases e; exact .nil
  | cons v vs ih =>
    intro ds ns r e
    cases r with
    | cons a r =>
      obtain ⟨i, m, rfl, e', rfl⟩ := asInts_cons e
      cases a
      exact .cons _ _ (ih r e')
end
end Mine
end

section
open PySem PySem.Calls PyProof.Rows
namespace Mine
noncomputable def XB (h : Heap) (X : Addr → Prop) : Prop := ∀ a, X a → ∃ o, h.get? a = some o
theorem XB.keeps {h h' : Heap} {X : Addr → Prop} (x : XB h X) (hk : ∀ b o, h.get? b = some o → h'.get? b = some o) : XB h' X := fun a ha => let ⟨o, e⟩ := x a ha; ⟨o, hk a o e⟩
theorem XB.fresh {h : Heap} {X : Addr → Prop} (x : XB h X) {a : Addr} (ha : h.objs.size ≤ a) : ¬ X a := fun e => let ⟨_, e'⟩ := x a e; absurd (Heap.lt_size e') (Nat.not_lt.mpr ha)
noncomputable def valOf (env : Env) (m cm : Str → Option Value) (x : Str) : Option Value :=
  match env.kindOf x with
  | some .local => m x
  | some .cell => if (env.cells.lookup x).isSome then cm x else none
  | some .free => if (env.cells.lookup x).isSome then cm x else none
  | _ => none
inductive NmVal (env : Env) (N : List Str) (h : Heap) (X : Addr → Prop) (aA : Option Addr) (m cm : Str → Option Value) (i : Nat) (d : DV) : Prop
  | mk (x : Str) (v : Value) (hx : N[i]? = some x) (hv : valOf env m cm x = some v) (r : Rel h X aA v d) : NmVal env N h X aA m cm i d
structure Nm (env : Env) (N : List Str) (h : Heap) (X : Addr → Prop) (aA : Option Addr) (ρ : List DV) (m cm : Str → Option Value) : Prop where
  ns : h.Ns env.locals m
  cell : ∀ n c, env.cells.lookup n = some c → h.IsCell c (cm n)
  val : ∀ (i : Nat) (d : DV), ρ[i]? = some d → d ≠ .undef → NmVal env N h X aA m cm i d
theorem Nm.keeps {env : Env} {N : List Str} {h h' : Heap} {X : Addr → Prop} {aA : Option Addr} {ρ : List DV} {m cm : Str → Option Value} (n : Nm env N h X aA ρ m cm) (hk : ∀ b o, h.get? b = some o → h'.get? b = some o) :
    Nm env N h' X aA ρ m cm := ⟨n.ns.keeps hk, fun x c e => (n.cell x c e).keeps hk, fun i d e ne => let ⟨x, v, a, b, r⟩ := n.val i d e ne; ⟨x, v, a, b, r.keeps hk⟩⟩
structure EnvOk (env : Env) (sc : List (Str × NameKind)) : Prop where
  kind : env.scope.kind = .function
  globals : env.globals = mainGlobals
  names : env.scope.names = sc
  builtins : env.builtins = builtinsNs
  cells : ∀ n, (sc.lookup n = some .cell ∨ sc.lookup n = some .free) → (env.cells.lookup n).isSome = true
theorem EnvOk.kindOf {env : Env} {sc : List (Str × NameKind)} (e : EnvOk env sc) (x : Str) : env.kindOf x = sc.lookup x := by
  unfold Env.kindOf; rw [e.names]
structure Cfg where
  h₁ : Heap
  mg : Str → Option Value
  mb : Str → Option Value
  c₁ : Addr
  P₁ : Addr
  c₂ : Addr
  P₂ : Addr
  C : Addr
  os : OsState
structure Glo (c : Cfg) (h : Heap) : Prop where
  g : h.Ns mainGlobals c.mg
  b : h.Ns builtinsNs c.mb
  lim : h.NoLimit
  keep : ∀ b o, c.h₁.get? b = some o → b ≠ c.P₁ → b ≠ c.P₂ → h.get? b = some o
theorem Glo.keeps {c : Cfg} {h h' : Heap} (g : Glo c h) (hk : ∀ b o, h.get? b = some o → h'.get? b = some o) : Glo c h' := ⟨g.g.keeps hk, g.b.keeps hk, g.lim.keeps hk, fun b o e n₁ n₂ => hk b o (g.keep b o e n₁ n₂)⟩
structure Rm (A : Around) : Prop where
  handled : A.handled = none
  units : A.units + 40 < cLine
theorem Rm.in1 {A : Around} (r : Rm A) (h : A.units + 41 < cLine) : Rm A.in1 := ⟨r.handled, by show A.units + 1 + 40 < cLine; lia⟩
theorem Rm.lt {A : Around} (r : Rm A) : A.units < cLine := by have := r.units; lia
section
variable (prog : Program) (w : World)
noncomputable def Yields (A : Around) (t : Sem Value) (X : Addr → Prop) (aA : Option Addr) (s : Shared) (d : DV) : Prop :=
  ∀ (Q : Value → Shared → Prop) (E : Value → Shared → Prop), (∀ v h' tk, Rel h' X aA v d → (∀ b o, s.heap.get? b = some o → h'.get? b = some o) → Q v { s with heap := h', toks := tk }) → wpAny (model prog w) A t Q E s
noncomputable def YieldsB (A : Around) (t : Sem Bool) (s : Shared) (b : Bool) : Prop :=
  ∀ (Q : Bool → Shared → Prop) (E : Value → Shared → Prop), (∀ h' tk, (∀ b o, s.heap.get? b = some o → h'.get? b = some o) → Q b { s with heap := h', toks := tk }) → wpAny (model prog w) A t Q E s
variable (c : Cfg)
noncomputable def SE (sc : List (Str × NameKind)) (N : List Str) (e : Expr) (f : List DV → Option DV) : Prop :=
  ∀ (A : Around) (env : Env) (s : Shared) (X : Addr → Prop) (aA : Option Addr) (ρ : List DV) (m cm : Str → Option Value) (d : DV), EnvOk env sc → Rm A → Glo c s.heap → XB s.heap X → Nm env N s.heap X aA ρ m cm → f ρ = some d → Yields prog w A (eval e env) X aA s d
noncomputable def ST (sc : List (Str × NameKind)) (N : List Str) (e : Expr) (f : List DV → Option Bool) : Prop :=
  ∀ (A : Around) (env : Env) (s : Shared) (X : Addr → Prop) (aA : Option Addr) (ρ : List DV) (m cm : Str → Option Value) (b : Bool), EnvOk env sc → Rm A → Glo c s.heap → XB s.heap X → Nm env N s.heap X aA ρ m cm → f ρ = some b → YieldsB prog w A (isTrue e env (eval e env)) s b
end
theorem lt_sizeLine {n : Nat} (h : n ≤ sizeB) : n ≤ sizeLine := Nat.le_trans h (by decide)
section
variable {prog : Program} {w : World} {c : Cfg} {sc : List (Str × NameKind)} {N : List Str}
noncomputable def mNone : List DV → Option DV := fun _ => some .none
noncomputable def mBool (b : Bool) : List DV → Option DV := fun _ => some (.bool b)
noncomputable def mInt (i : Int) : List DV → Option DV := fun _ => some (.int i)
noncomputable def mStr (x : Str) : List DV → Option DV := fun _ => if x.length ≤ sizeB then some (.str x) else none
noncomputable def mVar (i : Nat) : List DV → Option DV := fun ρ => match ρ[i]? with
  | some .undef => none
  | some d => some d
  | none => none
theorem se_none {k pos} : SE prog w c sc N (.Constant .none k pos) mNone := by
  intro A env s X aA ρ m cm d he hr hg hx hn hf Q E h
  cases hf
  exact wpAny_Constant_none (h _ _ _ .none fun _ _ e => e)
theorem se_bool {b k pos} : SE prog w c sc N (.Constant (.bool b) k pos) (mBool b) := by
  intro A env s X aA ρ m cm d he hr hg hx hn hf Q E h
  cases hf
  exact wpAny_Constant_bool (h _ _ _ (.bool b) fun _ _ e => e)
theorem se_int {i k pos} : SE prog w c sc N (.Constant (.int i) k pos) (mInt i) := by
  intro A env s X aA ρ m cm d he hr hg hx hn hf Q E h
  cases hf
  exact wpAny_Constant_int (h _ _ _ (.int i _) fun _ _ e => e)
theorem se_str {x k pos} : SE prog w c sc N (.Constant (.str x) k pos) (mStr x) := by
  intro A env s X aA ρ m cm d he hr hg hx hn hf Q E h
  simp only [mStr] at hf
  split at hf
  · cases hf
    exact wpAny_Constant_str (h _ _ _ (.str x _ (by assumption)) fun _ _ e => e)
  · cases hf
theorem mVar_some {i : Nat} {ρ : List DV} {d : DV} (h : mVar i ρ = some d) : ρ[i]? = some d ∧ d ≠ .undef := by
  unfold mVar at h
  split at h
  · cases h
  · rename_i d' hne e
    cases h
    exact ⟨e, hne⟩
  · cases h
theorem load_val {A : Around} {env : Env} {s : Shared} {m cm : Str → Option Value} {x : Str} {v : Value} {Q : Value → Shared → Prop} {E : Value → Shared → Prop} (hk : env.scope.kind = .function) (hn : s.heap.Ns env.locals m)
    (hc : ∀ n c, env.cells.lookup n = some c → s.heap.IsCell c (cm n)) (hv : valOf env m cm x = some v) (hd : (x == ("__classdict__" : Str)) = false) (h : Q v s) : wpAny (model prog w) A (loadName env x) Q E s := by
  unfold valOf at hv
  split at hv
  · rename_i hl
    exact wpAny_loadName_local hk hl hn hv h
  · rename_i hl
    split at hv
    · rename_i hi
      obtain ⟨c, ec⟩ := Option.isSome_iff_exists.mp hi
      exact wpAny_loadName_cell hk hl ec (hv ▸ hc x c ec) h
    · cases hv
  · rename_i hl
    split at hv
    · rename_i hi
      obtain ⟨c, ec⟩ := Option.isSome_iff_exists.mp hi
      exact wpAny_loadName_free hk hl ec (hv ▸ hc x c ec) h hd
    · cases hv
  · cases hv
theorem se_var {x : Str} {pos : Pos} {i : Nat} (hi : N[i]? = some x) (hd : (x == ("__classdict__" : Str)) = false := by decide +kernel) (hd' : (x == ("__debug__" : Str)) = false := by decide +kernel) :
    SE prog w c sc N (.Name x pos) (mVar i) := by
  intro A env s X aA ρ m cm d he hr hg hx hn hf Q E h
  obtain ⟨e, ne⟩ := mVar_some hf
  obtain ⟨x', v, ex, ev, r⟩ := hn.val i d e ne
  rw [hi] at ex
  cases ex
  exact wpAny_Name (load_val he.kind hn.ns hn.cell ev hd (h _ _ _ r fun _ _ e => e)) hd'
end
end Mine
end

section
open PySem PySem.Calls PyProof.Rows
namespace Mine
section
variable {prog : Program} {w : World} {c : Cfg} {sc : List (Str × NameKind)} {N : List Str}
theorem bits_of_natAbs {a : Int} (h : a.natAbs < 2 ^ 60) : Builtin.Int.intBits a ≤ 64 := intBits_le_64 (by omega) (by omega)
noncomputable def intD : DV → Option Int
  | .int i => some i
  | _ => none
theorem intD_some {d : DV} {i : Int} (h : intD d = some i) : d = .int i := by
  cases d with
  | int j => rw [Option.some.inj h]
  | _ => exact nomatch (show (none : Option Int) = some i from h)
noncomputable def lstD : DV → Option (List DV)
  | .lst l => some l
  | _ => none
theorem lstD_some {d : DV} {l : List DV} (h : lstD d = some l) : d = .lst l := by
  cases d with
  | lst j => rw [Option.some.inj h]
  | _ => exact nomatch (show (none : Option (List DV)) = some l from h)
noncomputable def strD : DV → Option Str
  | .str l => some l
  | _ => none
theorem strD_some {d : DV} {x : Str} (h : strD d = some x) : d = .str x := by
  cases d with
  | str j => rw [Option.some.inj h]
  | _ => exact nomatch (show (none : Option Str) = some x from h)
noncomputable def binI (a b : Int) : Operator → Option DV
  | .Add => some (.int (a + b))
  | .Sub => some (.int (a - b))
  | .Mult => if a.natAbs < 2 ^ 60 then some (.int (a * b)) else none
  | .Mod => if b = 0 then none else some (.int (a.fmod b))
  | .FloorDiv => if b = 0 ∨ 2 ^ 29 ≤ b.natAbs then none else some (.int (a.fdiv b))
  | .LShift => if 0 ≤ b ∧ b ≤ 1000 ∧ a.natAbs < 2 ^ 64 then some (.int (a * 2 ^ b.toNat)) else none
  | .BitAnd => some (.int (Builtin.bitAnd a b))
  | _ => none
noncomputable def binS (x : Str) (n : Int) : Operator → Option DV
  | .Mult => if x.length ≤ 1 ∧ n ≤ 4096 ∧ 0 ≤ n ∧ (Txt.mul x n).length ≤ sizeB then some (.str (Txt.mul x n)) else none
  | _ => none
noncomputable def binL (a b : List DV) : Operator → Option DV
  | .Add => if a.length + b.length ≤ sizeB then some (.lst (a ++ b)) else none
  | _ => none
noncomputable def binD (op : Operator) (a b : DV) : Option DV := match a with
  | .int i => (intD b).bind fun j => binI i j op
  | .str x => (intD b).bind fun j => binS x j op
  | .lst l => (lstD b).bind fun r => binL l r op
  | _ => none
theorem mulOk_of {x : Str} {n : Int} (h1 : x.length ≤ 1) (h2 : n ≤ 4096) (h0 : 0 ≤ n) : MulOk x n := by
  refine ⟨by simp; lia, fun hn _ => ?_, fun hn _ => ?_⟩
  · have h3 : (2 : Int) ≤ (2 ^ 63 - 1) / n := Int.le_ediv_of_mul_le (by omega) (by lia)
    lia
  · show decide (x.length * n.toNat > sizeLine) = false
    have : x.length * n.toNat ≤ 1 * 4096 := Nat.mul_le_mul h1 (by omega)
    have h4 : sizeLine = 16777216 := rfl
    simp; omega
theorem add_lists_raw {A : Around} {E : Value → Shared → Prop} {s : Shared} {l b : Addr} {vs ws : List Value} {Q : Value → Shared → Prop} (hl : s.heap.IsList l vs.toArray) (hb : s.heap.IsList b ws.toArray)
    (h : Q (.ref s.heap.objs.size) { s with heap := s.heap.push { cls := .type "list", data := .seq (vs ++ ws).toArray } }) (hsz : vs.length + ws.length ≤ sizeLine) :
    wpAny (model prog w) A (binaryOp .Add (.ref l) (.ref b)) Q E s := by
  obtain ⟨⟨c1, d1, t1, s1⟩, g1, rfl, n1, rfl⟩ := hl
  obtain ⟨⟨c2, d2, t2, s2⟩, g2, rfl, n2, rfl⟩ := hb
  have e : vs.toArray ++ ws.toArray = (vs ++ ws).toArray := List.append_toArray ..
  refine concat_meets ⟨_, g1, rfl⟩ ⟨_, g2, rfl⟩ noFill_list_add seq_list_add F.slot_list_add F.entry_list_add (F.args_list_add_2 _ _)
    (list_addW l b vs.toArray ws.toArray n1 n2 d1 d2 s1 s2 (by simpa using hsz)) ⟨g1, g2, ?_⟩
  rw [e]; exact h
theorem bin_ok {op : Operator} {A : Around} {s : Shared} {X : Addr → Prop} {aA : Option Addr} {v₁ v₂ : Value} {d₁ d₂ d : DV} (hx : XB s.heap X) (r₁ : Rel s.heap X aA v₁ d₁) (r₂ : Rel s.heap X aA v₂ d₂)
    (hd : binD op d₁ d₂ = some d) : Yields prog w A (binaryOp op v₁ v₂) X aA s d := by
  intro Q E h
  cases d₁ with
  | int i =>
    obtain ⟨j, hj, hd⟩ := obind (show (intD d₂).bind (fun j => binI i j op) = some d from hd)
    cases intD_some hj
    cases r₁ using Rel.intC
    cases r₂ using Rel.intC
    cases op with
    | Add => cases hd; exact P.add_int (h _ _ _ (.int _ _) fun _ _ e => e)
    | Sub => cases hd; exact P.sub_int (h _ _ _ (.int _ _) fun _ _ e => e)
    | Mult => obtain ⟨hb, rfl⟩ := iteC hd; exact P.mul_int (h _ _ _ (.int _ _) fun _ _ e => e) (.of_left (bits_of_natAbs hb))
    | Mod => obtain ⟨hb, rfl⟩ := iteN hd; exact mod_int' hb (h _ _ _ (.int _ _) fun _ _ e => e)
    | FloorDiv => obtain ⟨hb, rfl⟩ := iteN hd; exact floordiv_int (fun e => hb (.inl e)) (h _ _ _ (.int _ _) fun _ _ e => e) (.inl (PyProof.noPylong_small (by lia)))
    | LShift => obtain ⟨hb, rfl⟩ := iteC hd; exact lshift_int_small hb.1 (by omega) hb.2.2 (h _ _ _ (.int _ _) fun _ _ e => e)
    | BitAnd => cases hd; exact and_int (h _ _ _ (.int _ _) fun _ _ e => e)
    | _ => exact nomatch (show (none : Option DV) = some d from hd)
  | str x =>
    obtain ⟨j, hj, hd⟩ := obind (show (intD d₂).bind (fun j => binS x j op) = some d from hd)
    cases intD_some hj
    cases r₁ using Rel.strC
    cases r₂ using Rel.intC
    cases op with
    | Mult => obtain ⟨hb, rfl⟩ := iteC hd; exact SB.mul (mulOk_of hb.1 hb.2.1 hb.2.2.1) fun t' k => h _ _ _ (.str _ _ hb.2.2.2) fun _ _ e => e
    | _ => exact nomatch (show (none : Option DV) = some d from hd)
  | lst l =>
    obtain ⟨j, hj, hd⟩ := obind (show (lstD d₂).bind (fun j => binL l j op) = some d from hd)
    cases lstD_some hj
    cases op with
    | Add =>
      obtain ⟨hb, rfl⟩ := iteC hd
      cases r₁ using Rel.lstC with
      | lst n1 l1 z1 q1 =>
        cases r₂ using Rel.lstC with
        | lst n2 l2 z2 q2 =>
          have hlen := RelL.length q1
          have hlen2 := RelL.length q2
          refine add_lists_raw l1.isList l2.isList (h _ _ _ (.lst (hx.fresh (Nat.le_refl _)) ⟨_, Heap.get?_push_size _ rfl⟩ (by rw [List.length_append]; lia) (RelL.append (q1.keeps fun _ _ e => Heap.get?_push_of_some _ e) (q2.keeps fun _ _ e => Heap.get?_push_of_some _ e))) fun _ _ e => Heap.get?_push_of_some _ e) (lt_sizeLine (by lia))
    | _ => exact nomatch (show (none : Option DV) = some d from hd)
  | _ => exact nomatch (show (none : Option DV) = some d from hd)
noncomputable def mBin (op : Operator) (f g : List DV → Option DV) : List DV → Option DV := fun ρ => (f ρ).bind fun a => (g ρ).bind fun b => binD op a b
theorem se_bin {l r : Expr} {op : Operator} {pos : Pos} {f g : List DV → Option DV} (hl : SE prog w c sc N l f) (hr : SE prog w c sc N r g) : SE prog w c sc N (.BinOp l op r pos) (mBin op f g) := by
  intro A env s X aA ρ m cm d he hA hg hx hn hf Q E h
  obtain ⟨a, ha, hf⟩ := obind hf
  obtain ⟨b, hb, hf⟩ := obind hf
  refine wpAny_BinOp (hl A env s X aA ρ m cm a he hA hg hx hn ha _ _ fun v₁ h₁ tk₁ r₁ k₁ => ?_)
  refine hr A env _ X aA ρ m cm b he hA (hg.keeps k₁) (hx.keeps k₁) (hn.keeps k₁) hb _ _ fun v₂ h₂ tk₂ r₂ k₂ => ?_
  exact bin_ok ((hx.keeps k₁).keeps k₂) (r₁.keeps k₂) r₂ hf _ _ fun v h₃ tk₃ r₃ k₃ => h v h₃ tk₃ r₃ fun b o e => k₃ b o (k₂ b o (k₁ b o e))
noncomputable def negD (a : DV) : Option DV := (intD a).map fun i => .int (-i)
noncomputable def mNeg (f : List DV → Option DV) : List DV → Option DV := fun ρ => (f ρ).bind negD
theorem se_neg {x : Expr} {pos : Pos} {f : List DV → Option DV} (hf : SE prog w c sc N x f) : SE prog w c sc N (.UnaryOp .USub x pos) (mNeg f) := by
  intro A env s X aA ρ m cm d he hA hg hx hn hd Q E h
  obtain ⟨a, ha, hd⟩ := obind hd
  refine wpAny_UnaryOp (hf A env s X aA ρ m cm a he hA hg hx hn ha _ _ fun v₁ h₁ tk₁ r₁ k₁ => ?_)
  obtain ⟨i, hi, rfl⟩ := omap (show (intD a).map (fun i => DV.int (-i)) = some d from hd)
  cases intD_some hi
  cases r₁ using Rel.intC
  exact P.neg_int (h _ _ _ (.int _ _) k₁)
noncomputable def inD (i : Int) (ds : List DV) : Option Bool := (asInts ds).map fun ns => ns.any (· == i)
noncomputable def cmpI (a b : Int) : CmpOp → Option Bool
  | .Eq => some (a == b)
  | .NotEq => some (a != b)
  | .Lt => some (decide (a < b))
  | .LtE => some (decide (a ≤ b))
  | .Gt => some (decide (a > b))
  | .GtE => some (decide (a ≥ b))
  | _ => none
noncomputable def cmpS (a b : Str) : CmpOp → Option Bool
  | .Eq => some (a == b)
  | .NotEq => some (a != b)
  | _ => none
noncomputable def cmpL (a : Int) (ds : List DV) : CmpOp → Option Bool
  | .In => inD a ds
  | .NotIn => (inD a ds).map (!·)
  | _ => none
noncomputable def cmpID (op : CmpOp) (a : Int) : DV → Option Bool
  | .int b => cmpI a b op
  | .lst ds => cmpL a ds op
  | _ => none
noncomputable def cmpD (op : CmpOp) (a b : DV) : Option Bool := match a with
  | .int i => cmpID op i b
  | .str x => (strD b).bind fun y => cmpS x y op
  | _ => none
theorem cmp_ok {op : CmpOp} {A : Around} {s : Shared} {X : Addr → Prop} {aA : Option Addr} {v₁ v₂ : Value} {d₁ d₂ : DV} {b : Bool} {Q : Value → Shared → Prop} {E : Value → Shared → Prop}
    (r₁ : Rel s.heap X aA v₁ d₁) (r₂ : Rel s.heap X aA v₂ d₂) (hd : cmpD op d₁ d₂ = some b) (h : Q (.bool b) s) : wpAny (model prog w) A (compareOp op v₁ v₂) Q E s := by
  cases d₁ with
  | int i =>
    cases r₁ using Rel.intC
    cases d₂ with
    | int j =>
      cases r₂ using Rel.intC
      cases op with
      | Eq => cases hd; exact P.eq_int h
      | NotEq => cases hd; exact P.ne_int h
      | Lt => cases hd; exact P.lt_int h
      | LtE => cases hd; exact P.le_int h
      | Gt => cases hd; exact P.gt_int h
      | GtE => cases hd; exact P.ge_int h
      | _ => exact nomatch (show (none : Option Bool) = some b from hd)
    | lst ds =>
      cases r₂ using Rel.lstC with
      | lst _ l2 _ q2 =>
        cases op with
        | In =>
          obtain ⟨ns, hns, rfl⟩ := omap (show (asInts ds).map _ = _ from hd)
          exact in_list_ints l2.isList (q2.areInts hns) h
        | NotIn =>
          obtain ⟨c, hc, rfl⟩ := omap (show (inD i ds).map _ = _ from hd)
          obtain ⟨ns, hns, rfl⟩ := omap (show (asInts ds).map _ = _ from hc)
          exact notin_list_ints l2.isList (q2.areInts hns) h
        | _ => exact nomatch (show (none : Option Bool) = some b from hd)
    | _ => exact nomatch (show (none : Option Bool) = some b from hd)
  | str x =>
    obtain ⟨y, hy, hd⟩ := obind (show (strD d₂).bind (fun y => cmpS x y op) = some b from hd)
    cases strD_some hy
    cases r₁ using Rel.strC
    cases r₂ using Rel.strC
    cases op with
    | Eq => cases hd; exact PyProof.Rows.eq_str h
    | NotEq => cases hd; exact PyProof.Rows.ne_str h
    | _ => exact nomatch (show (none : Option Bool) = some b from hd)
  | _ => exact nomatch (show (none : Option Bool) = some b from hd)
end
end Mine
end

section
open PySem PySem.Calls PyProof.Rows
namespace Mine
section
variable {prog : Program} {w : World} {c : Cfg} {sc : List (Str × NameKind)} {N : List Str}
noncomputable def truD : DV → Option Bool
  | .none => some false
  | .bool b => some b
  | .int i => some (i != 0)
  | .str x => some ((x.length : Int) != 0)
  | _ => none
theorem tru_ok {A : Around} {s : Shared} {X : Addr → Prop} {aA : Option Addr} {v : Value} {d : DV} {b : Bool} (r : Rel s.heap X aA v d) (hd : truD d = some b) : YieldsB prog w A (truthy v) s b := by
  intro Q E h
  unfold truD at hd
  split at hd
  · cases r using Rel.noneC; cases hd; exact truthy_none (h _ _ fun _ _ e => e)
  · cases r using Rel.boolC; cases hd; exact wpAny_truthy_bool (h _ _ fun _ _ e => e)
  · cases r using Rel.intC; cases hd; exact P.truthy_int (h _ _ fun _ _ e => e)
  · cases r with
    | str x t hx =>
      cases hd
      have hz : sizeB = 1048576 := rfl
      exact P.truthy_str (by lia) (h _ _ fun _ _ e => e)
  · cases hd
noncomputable def mTru (f : List DV → Option DV) : List DV → Option Bool := fun ρ => (f ρ).bind truD
theorem st_tru {e : Expr} {f : List DV → Option DV} (hf : SE prog w c sc N e f) (he' : ∀ env whole, isTrue e env whole = (do let v ← whole; standAt e.pos; holding [v] (truthy v)) := by intros; rfl) : ST prog w c sc N e (mTru f) := by
  intro A env s X aA ρ m cm b he hA hg hx hn hb Q E h
  obtain ⟨d, hd, hb⟩ := obind hb
  refine wpAny_isTrue_value (hf A env s X aA ρ m cm d he hA hg hx hn hd _ _ fun v h₁ tk₁ r₁ k₁ => ?_) (he' _ _)
  exact tru_ok r₁ hb _ _ fun h₂ tk₂ k₂ => h h₂ tk₂ fun b o e => k₂ b o (k₁ b o e)
noncomputable def mCmp (op : CmpOp) (f g : List DV → Option DV) : List DV → Option Bool := fun ρ => (f ρ).bind fun a => (g ρ).bind fun b => cmpD op a b
theorem st_cmp {l r : Expr} {op : CmpOp} {pos : Pos} {f g : List DV → Option DV} (hl : SE prog w c sc N l f) (hr : SE prog w c sc N r g) (hm : behindInMarks op r = false := by with_unfolding_all rfl) :
    ST prog w c sc N (.Compare l [op] [r] pos) (mCmp op f g) := by
  intro A env s X aA ρ m cm b he hA hg hx hn hb Q E h
  obtain ⟨a, ha, hb⟩ := obind hb
  obtain ⟨c, hc, hb⟩ := obind hb
  refine wpAny_isTrue_Compare1 (hl A env s X aA ρ m cm a he hA hg hx hn ha _ _ fun v₁ h₁ tk₁ r₁ k₁ => ?_) hm
  refine hr A env _ X aA ρ m cm c he hA (hg.keeps k₁) (hx.keeps k₁) (hn.keeps k₁) hc _ _ fun v₂ h₂ tk₂ r₂ k₂ => ?_
  exact cmp_ok (r₁.keeps k₂) r₂ hb (wpAny_truthy_bool (h h₂ tk₂ fun b o e => k₂ b o (k₁ b o e)))
noncomputable def mCmpV (op : CmpOp) (f g : List DV → Option DV) : List DV → Option DV := fun ρ => (mCmp op f g ρ).map .bool
theorem se_cmp {l r : Expr} {op : CmpOp} {pos : Pos} {f g : List DV → Option DV} (hl : SE prog w c sc N l f) (hr : SE prog w c sc N r g) (hm : behindInMarks op r = false := by with_unfolding_all rfl) :
    SE prog w c sc N (.Compare l [op] [r] pos) (mCmpV op f g) := by
  intro A env s X aA ρ m cm d he hA hg hx hn hd Q E h
  obtain ⟨b, hb, rfl⟩ := omap hd
  obtain ⟨a, ha, hb⟩ := obind hb
  obtain ⟨c, hc, hb⟩ := obind hb
  refine wpAny_Compare1 (hl A env s X aA ρ m cm a he hA hg hx hn ha _ _ fun v₁ h₁ tk₁ r₁ k₁ => ?_) hm
  refine hr A env _ X aA ρ m cm c he hA (hg.keeps k₁) (hx.keeps k₁) (hn.keeps k₁) hc _ _ fun v₂ h₂ tk₂ r₂ k₂ => ?_
  exact cmp_ok (r₁.keeps k₂) r₂ hb (h _ _ _ (.bool _) fun b o e => k₂ b o (k₁ b o e))
noncomputable def mChain (op op' : CmpOp) (f g k : List DV → Option DV) : List DV → Option Bool := fun ρ => (f ρ).bind fun a => (g ρ).bind fun b => (cmpD op a b).bind fun t => if t then (k ρ).bind fun c => cmpD op' b c else some false
theorem st_chain {l r r' : Expr} {op op' : CmpOp} {pos : Pos} {f g k : List DV → Option DV} (hl : SE prog w c sc N l f) (hr : SE prog w c sc N r g) (hr' : SE prog w c sc N r' k) (hm : lastMarks [op, op'] [r, r'] = false := by with_unfolding_all rfl) :
    ST prog w c sc N (.Compare l [op, op'] [r, r'] pos) (mChain op op' f g k) := by
  intro A env s X aA ρ m cm b he hA hg hx hn hb Q E h
  obtain ⟨a, ha, hb⟩ := obind hb
  obtain ⟨c, hc, hb⟩ := obind hb
  obtain ⟨t, ht, hb⟩ := obind hb
  refine isTrue_chain (ops := []) (rs := []) (hl A env s X aA ρ m cm a he hA hg hx hn ha _ _ fun v₁ h₁ tk₁ r₁ k₁ => test_link ?_) hm
  refine hr A env _ X aA ρ m cm c he hA (hg.keeps k₁) (hx.keeps k₁) (hn.keeps k₁) hc _ _ fun v₂ h₂ tk₂ r₂ k₂ => ?_
  refine cmp_ok (r₁.keeps k₂) r₂ ht (wpAny_truthy_bool ?_)
  cases t with
  | false => simp at hb; subst hb; exact h h₂ tk₂ fun b o e => k₂ b o (k₁ b o e)
  | true =>
    simp only [if_true] at hb ⊢
    obtain ⟨c', hc', hb⟩ := obind hb
    refine test_last (hr' A env _ X aA ρ m cm c' he hA ((hg.keeps k₁).keeps k₂) ((hx.keeps k₁).keeps k₂) ((hn.keeps k₁).keeps k₂) hc' _ _ fun v₃ h₃ tk₃ r₃ k₃ => ?_)
    exact cmp_ok (r₂.keeps k₃) r₃ hb (wpAny_truthy_bool (h h₃ tk₃ fun b o e => k₃ b o (k₂ b o (k₁ b o e))))
noncomputable def mNot (f : List DV → Option Bool) : List DV → Option Bool := fun ρ => (f ρ).map (!·)
theorem st_not {x : Expr} {pos : Pos} {f : List DV → Option Bool} (hf : ST prog w c sc N x f) : ST prog w c sc N (.UnaryOp .Not x pos) (mNot f) := by
  intro A env s X aA ρ m cm b he hA hg hx hn hb Q E h
  obtain ⟨c, hc, rfl⟩ := omap hb
  exact wpAny_isTrue_Not (hf A env s X aA ρ m cm c he hA hg hx hn hc _ _ fun h₁ tk₁ k₁ => h h₁ tk₁ k₁)
noncomputable def SA (prog : Program) (w : World) (c : Cfg) (sc : List (Str × NameKind)) (N : List Str) (op : BoolOp) (es : List Expr) (f : List DV → Option Bool) : Prop :=
  ∀ (A : Around) (env : Env) (s : Shared) (X : Addr → Prop) (aA : Option Addr) (ρ : List DV) (m cm : Str → Option Value) (b : Bool), EnvOk env sc → Rm A → Glo c s.heap → XB s.heap X → Nm env N s.heap X aA ρ m cm → f ρ = some b → YieldsB prog w A (allTrue op es env) s b
noncomputable def mAndT : List DV → Option Bool := fun _ => some true
noncomputable def mOrF : List DV → Option Bool := fun _ => some false
noncomputable def mAnd (f g : List DV → Option Bool) : List DV → Option Bool := fun ρ => (f ρ).bind fun b => if b then g ρ else some false
noncomputable def mOr (f g : List DV → Option Bool) : List DV → Option Bool := fun ρ => (f ρ).bind fun b => if b then some true else g ρ
theorem sa_and_nil : SA prog w c sc N .And [] mAndT := by
  intro A env s X aA ρ m cm b he hA hg hx hn hb Q E h
  cases hb; exact wpAny_allTrue_And_nil (h _ _ fun _ _ e => e)
theorem sa_or_nil : SA prog w c sc N .Or [] mOrF := by
  intro A env s X aA ρ m cm b he hA hg hx hn hb Q E h
  cases hb; exact wpAny_allTrue_Or_nil (h _ _ fun _ _ e => e)
theorem sa_and {x : Expr} {es : List Expr} {f g : List DV → Option Bool} (hf : ST prog w c sc N x f) (hg' : SA prog w c sc N .And es g) : SA prog w c sc N .And (x :: es) (mAnd f g) := by
  intro A env s X aA ρ m cm b he hA hg hx hn hb Q E h
  obtain ⟨c, hc, hb⟩ := obind hb
  refine wpAny_allTrue_And_cons (hf A env s X aA ρ m cm c he hA hg hx hn hc _ _ fun h₁ tk₁ k₁ => ?_)
  cases c with
  | false => simp at hb; subst hb; exact h h₁ tk₁ k₁
  | true => exact hg' A env _ X aA ρ m cm b he hA (hg.keeps k₁) (hx.keeps k₁) (hn.keeps k₁) (by simpa using hb) _ _ fun h₂ tk₂ k₂ => h h₂ tk₂ fun b o e => k₂ b o (k₁ b o e)
theorem sa_or {x : Expr} {es : List Expr} {f g : List DV → Option Bool} (hf : ST prog w c sc N x f) (hg' : SA prog w c sc N .Or es g) : SA prog w c sc N .Or (x :: es) (mOr f g) := by
  intro A env s X aA ρ m cm b he hA hg hx hn hb Q E h
  obtain ⟨c, hc, hb⟩ := obind hb
  refine wpAny_allTrue_Or_cons (hf A env s X aA ρ m cm c he hA hg hx hn hc _ _ fun h₁ tk₁ k₁ => ?_)
  cases c with
  | true => simp at hb; subst hb; exact h h₁ tk₁ k₁
  | false => exact hg' A env _ X aA ρ m cm b he hA (hg.keeps k₁) (hx.keeps k₁) (hn.keeps k₁) (by simpa using hb) _ _ fun h₂ tk₂ k₂ => h h₂ tk₂ fun b o e => k₂ b o (k₁ b o e)
theorem st_bool {op : BoolOp} {es : List Expr} {pos : Pos} {f : List DV → Option Bool} (hf : SA prog w c sc N op es f) : ST prog w c sc N (.BoolOp op es pos) f := by
  intro A env s X aA ρ m cm b he hA hg hx hn hb Q E h
  exact wpAny_isTrue_BoolOp (hf A env s X aA ρ m cm b he hA hg hx hn hb Q E h)
noncomputable def mIf (t : List DV → Option Bool) (f g : List DV → Option DV) : List DV → Option DV := fun ρ => (t ρ).bind fun b => if b then f ρ else g ρ
theorem se_ife {t x y : Expr} {pos : Pos} {ft : List DV → Option Bool} {f g : List DV → Option DV} (ht : ST prog w c sc N t ft) (hf : SE prog w c sc N x f) (hg' : SE prog w c sc N y g) : SE prog w c sc N (.IfExp t x y pos) (mIf ft f g) := by
  intro A env s X aA ρ m cm d he hA hg hx hn hd Q E h
  obtain ⟨c, hc, hd⟩ := obind hd
  refine wpAny_IfExp (ht A env s X aA ρ m cm c he hA hg hx hn hc _ _ fun h₁ tk₁ k₁ => ?_)
  cases c with
  | true => exact hf A env _ X aA ρ m cm d he hA (hg.keeps k₁) (hx.keeps k₁) (hn.keeps k₁) (by simpa using hd) _ _ fun v h₂ tk₂ r₂ k₂ => h v h₂ tk₂ r₂ fun b o e => k₂ b o (k₁ b o e)
  | false => exact hg' A env _ X aA ρ m cm d he hA (hg.keeps k₁) (hx.keeps k₁) (hn.keeps k₁) (by simpa using hd) _ _ fun v h₂ tk₂ r₂ k₂ => h v h₂ tk₂ r₂ fun b o e => k₂ b o (k₁ b o e)
noncomputable def mOrV (f g : List DV → Option DV) : List DV → Option DV := fun ρ => (f ρ).bind fun a => (truD a).bind fun b => if b then some a else g ρ
theorem se_or {x y : Expr} {pos : Pos} {f g : List DV → Option DV} (hf : SE prog w c sc N x f) (hg' : SE prog w c sc N y g) : SE prog w c sc N (.BoolOp .Or [x, y] pos) (mOrV f g) := by
  intro A env s X aA ρ m cm d he hA hg hx hn hd Q E h
  obtain ⟨a, ha, hd⟩ := obind hd
  obtain ⟨c, hc, hd⟩ := obind hd
  refine wpAny_Or2 (hf A env s X aA ρ m cm a he hA hg hx hn ha _ _ fun v₁ h₁ tk₁ r₁ k₁ => ?_)
  refine tru_ok r₁ hc _ _ fun h₂ tk₂ k₂ => ?_
  cases c with
  | true => simp at hd; subst hd; exact h v₁ h₂ tk₂ (r₁.keeps k₂) fun b o e => k₂ b o (k₁ b o e)
  | false => exact hg' A env _ X aA ρ m cm d he hA ((hg.keeps k₁).keeps k₂) ((hx.keeps k₁).keeps k₂) ((hn.keeps k₁).keeps k₂) (by simpa using hd) _ _ fun v h₃ tk₃ r₃ k₃ => h v h₃ tk₃ r₃ fun b o e => k₃ b o (k₂ b o (k₁ b o e))
end
end Mine
end

section
open PySem PySem.Calls PyProof.Rows
namespace Mine
section
variable {prog : Program} {w : World} {c : Cfg} {sc : List (Str × NameKind)} {N : List Str}
noncomputable def at? {α : Type} (xs : List α) (k : Int) : Option α := if 0 ≤ k then xs[k.toNat]? else if 0 ≤ k + xs.length then xs[(k + xs.length).toNat]? else none
noncomputable def idxD : DV → DV → Option DV
  | .lst ds, .int k => if ds.length ≤ sizeB then at? ds k else none
  | .tup ds, .int k => if ds.length ≤ sizeB then at? ds k else none
  | .str x, .int k => if x.length ≤ sizeB then (at? x.cps.toList k).map fun c => .str ⟨#[c]⟩ else none
  | _, _ => none
theorem at_seq {α : Type} {xs : List α} {k : Int} {d : α} (h : at? xs k = some d) : ∃ j, seqIndex? k xs.length = some j ∧ xs[j]? = some d ∧ -(xs.length : Int) ≤ k ∧ k < xs.length := by
  unfold at? at h
  unfold seqIndex?
  split at h
  · rename_i h0
    have hl := (List.getElem?_eq_some_iff.mp h).1
    refine ⟨k.toNat, ?_, h, by lia, by lia⟩
    have h2 : ¬ k < 0 := by lia
    simp only [h2, if_false]
    rw [if_pos (by simp; lia)]
  · rename_i h0
    split at h
    · rename_i h1
      have hl := (List.getElem?_eq_some_iff.mp h).1
      refine ⟨(k + xs.length).toNat, ?_, h, by lia, by lia⟩
      have h2 : k < 0 := by lia
      simp only [h2, if_true]
      rw [if_pos (by simp; lia)]
    · cases h
theorem getItem_list_any {A : Around} {E : Value → Shared → Prop} {s : Shared} {l : Addr} {vs : List Value} {k : Int} {u : Tok} {j : Nat} {x : Value} {Q : Value → Shared → Prop} (hl : s.heap.IsList l vs.toArray)
    (hj : seqIndex? k vs.length = some j) (hx : vs[j]? = some x) (hz : vs.length ≤ sizeB) (h : Q x s) : wpAny (model prog w) A (getItem (.ref l) (.int k u)) Q E s := by
  have hz' : sizeB = 1048576 := rfl
  unfold seqIndex? at hj
  by_cases h0 : k < 0
  · simp only [h0, if_true] at hj
    split at hj
    · rename_i hc
      cases hj
      have hc' : 0 ≤ k + (vs.length : Int) ∧ k + (vs.length : Int) < vs.length := by simpa using hc
      exact wpAny_getItem_list_neg hl h0 (by simp; omega) (by lia) (by simpa using hx) h
    · cases hj
  · simp only [h0, if_false] at hj
    split at hj
    · rename_i hc
      cases hj
      have hc' : 0 ≤ k ∧ k < (vs.length : Int) := by simpa using hc
      exact wpAny_getItem_list hl (by lia) (by lia) (by simpa using hx) h
    · cases hj
theorem idx_ok {A : Around} {s : Shared} {X : Addr → Prop} {aA : Option Addr} {v₁ v₂ : Value} {d₁ d₂ d : DV} {value slice : Expr} (r₁ : Rel s.heap X aA v₁ d₁) (r₂ : Rel s.heap X aA v₂ d₂)
    (hd : idxD d₁ d₂ = some d) (hs : ∀ o i, subscripted slice false o i = operate [o, i] (getItem o i)) : Yields prog w A (subscriptTail value slice v₁ v₂) X aA s d := by
  intro Q E h
  have hz' : sizeB = 1048576 := rfl
  unfold idxD at hd
  split at hd
  · split at hd
    · cases r₂ using Rel.intC
      cases r₁ using Rel.lstC with
      | lst n1 l1 z1 q1 =>
        obtain ⟨j, hj, hx, h1, h2⟩ := at_seq hd
        obtain ⟨v, hv, r⟩ := q1.get hx
        have hlen := q1.length
        exact tail_any l1.isList.typeIs slot_list_getitem.lookup (getItem_list_any l1.isList (by rw [hlen]; exact hj) hv z1 (h v _ _ r fun _ _ e => e)) (hs _ _)
    · cases hd
  · split at hd
    · cases r₂ using Rel.intC
      cases r₁ using Rel.tupC with
      | tup n1 l1 z1 q1 =>
        obtain ⟨j, hj, hx, h1, h2⟩ := at_seq hd
        obtain ⟨v, hv, r⟩ := q1.get hx
        have hlen := q1.length
        exact tail_any l1.typeIs slot_tuple_getitem.lookup (getItem_tuple l1 (by lia) (by lia) (by simpa [hlen] using hj) (by simpa using hv) (h v _ _ r fun _ _ e => e)) (hs _ _)
    · cases hd
  · rename_i x k
    split at hd
    · cases r₂ using Rel.intC
      cases r₁ with
      | str _ t hx =>
        obtain ⟨c, hc, rfl⟩ := omap hd
        obtain ⟨j, hj, hx', h1, h2⟩ := at_seq hc
        have hl : x.cps.toList.length = x.length := by simp [Str.length]
        rw [hl] at hj h1 h2
        refine tail_any (typeIs_str _ _ _) F.slot_str_getitem.lookup (P.getItem_str (c := c) (by simp; lia) (by rw [hj]; simpa using hx') (h _ _ _ (.str _ _ (by show 1 ≤ sizeB; decide)) fun _ _ e => e)) (hs _ _)
    · cases hd
  · cases hd
noncomputable def mIdx (f g : List DV → Option DV) : List DV → Option DV := fun ρ => (f ρ).bind fun a => (g ρ).bind fun b => idxD a b
theorem se_idx {value slice : Expr} {pos : Pos} {f g : List DV → Option DV} (hv : SE prog w c sc N value f) (hi : SE prog w c sc N slice g)
    (hs : ∀ o i, subscripted slice false o i = operate [o, i] (getItem o i) := by intros; rfl) : SE prog w c sc N (.Subscript value slice pos) (mIdx f g) := by
  intro A env s X aA ρ m cm d he hA hg hx hn hd Q E h
  obtain ⟨a, ha, hd⟩ := obind hd
  obtain ⟨b, hb, hd⟩ := obind hd
  refine Subscript_ (hv A env s X aA ρ m cm a he hA hg hx hn ha _ _ fun v₁ h₁ tk₁ r₁ k₁ => ?_)
  refine hi A env _ X aA ρ m cm b he hA (hg.keeps k₁) (hx.keeps k₁) (hn.keeps k₁) hb _ _ fun v₂ h₂ tk₂ r₂ k₂ => ?_
  exact idx_ok (r₁.keeps k₂) r₂ hd hs _ _ fun v h₃ tk₃ r₃ k₃ => h v h₃ tk₃ r₃ fun b o e => k₃ b o (k₂ b o (k₁ b o e))
noncomputable def pickIdx (lo hi : Option Int) (n : Nat) : List Nat := sliceRange (sliceBounds lo hi none n).1 (sliceBounds lo hi none n).2.1 1
noncomputable def pick {α : Type} (xs : List α) (lo hi : Option Int) : List α := (pickIdx lo hi xs.length).filterMap (xs[·]?)
theorem pick_le {α : Type} (xs : List α) (lo hi : Option Int) : (pick xs lo hi).length ≤ xs.length := by
  refine Nat.le_trans (List.length_filterMap_le _ _) ?_
  have h := sliceRange_length_le (sliceBounds lo hi none xs.length).1 (sliceBounds lo hi none xs.length).2.1 1 xs.length (fun _ => ?_) (fun q => absurd (by decide) q)
  · exact h
  · rw [sliceBounds_plain]
    refine ⟨Int.natCast_nonneg _, ?_⟩
    cases hi with
    | none => exact Int.le_refl _
    | some i =>
      show ((clipAt xs.length i : Nat) : Int) ≤ _
      rw [clipAt_cast]
      exact Int.max_le.mpr ⟨Int.natCast_nonneg _, Int.min_le_right ..⟩
theorem slicePick_eq (vs : List Value) (lo hi : Option Int) : slicePick vs.toArray lo hi none = (pick vs lo hi).toArray := by
  unfold slicePick pick pickIdx
  simp [sliceBounds]
theorem RelL.filterMap {h : Heap} {X : Addr → Prop} {aA : Option Addr} {vs : List Value} {ds : List DV} (r : RelL h X aA vs ds) : ∀ is : List Nat, RelL h X aA (is.filterMap (vs[·]?)) (is.filterMap (ds[·]?))
  | [] => .nil
  | i :: is => by
    have ih := RelL.filterMap r is
    rw [List.filterMap_cons, List.filterMap_cons]
    cases e : ds[i]? with
    | none =>
      have : vs[i]? = none := by rw [List.getElem?_eq_none_iff] at e ⊢; rw [r.length]; exact e
      rw [this]; exact ih
    | some d =>
      obtain ⟨v, hv, q⟩ := r.get e
      rw [hv]; exact .cons q ih
theorem RelL.pick {h : Heap} {X : Addr → Prop} {aA : Option Addr} {vs : List Value} {ds : List DV} (r : RelL h X aA vs ds) (lo hi : Option Int) : RelL h X aA (Mine.pick vs lo hi) (Mine.pick ds lo hi) := by
  unfold Mine.pick; rw [r.length]; exact r.filterMap _
noncomputable def sliceD (d : DV) (lo hi : Option Int) : Option DV := match d with
  | .lst ds => some (.lst (pick ds lo hi))
  | .str x => some (.str (Txt.slice x lo hi))
  | _ => none
noncomputable def SP (prog : Program) (w : World) (c : Cfg) (sc : List (Str × NameKind)) (N : List Str) (e : Option Expr) (f : List DV → Option (Option Int)) : Prop :=
  ∀ (A : Around) (env : Env) (s : Shared) (X : Addr → Prop) (aA : Option Addr) (ρ : List DV) (m cm : Str → Option Value) (p : Option Int), EnvOk env sc → Rm A → Glo c s.heap → XB s.heap X → Nm env N s.heap X aA ρ m cm → f ρ = some p →
    ∀ (Q : Value → Shared → Prop) (E : Value → Shared → Prop), (∀ (q : Option (Int × Tok)) h' tk, q.map (·.1) = p → (∀ b o, s.heap.get? b = some o → h'.get? b = some o) → Q (partValue q) { s with heap := h', toks := tk }) → wpAny (model prog w) A (evalPart e env) Q E s
noncomputable def pNo : List DV → Option (Option Int) := fun _ => some none
noncomputable def partD : DV → Option (Option Int)
  | .none => some none
  | .int i => some (some i)
  | _ => none
noncomputable def pAt (f : List DV → Option DV) : List DV → Option (Option Int) := fun ρ => (f ρ).bind partD
theorem sp_no : SP prog w c sc N none pNo := by
  intro A env s X aA ρ m cm p he hA hg hx hn hp Q E h
  cases hp
  exact evalPart_none_step (h none _ _ rfl fun _ _ e => e)
theorem sp_at {e : Expr} {f : List DV → Option DV} (hf : SE prog w c sc N e f) : SP prog w c sc N (some e) (pAt f) := by
  intro A env s X aA ρ m cm p he hA hg hx hn hp Q E h
  obtain ⟨a, ha, hp⟩ := obind hp
  refine evalPart_some_step (hf A env s X aA ρ m cm a he hA hg hx hn ha _ _ fun v₁ h₁ tk₁ r₁ k₁ => ?_)
  unfold partD at hp
  split at hp
  · cases hp; cases r₁ using Rel.noneC; exact h none _ _ rfl k₁
  · cases hp
    cases r₁ with
    | int _ t => exact h (some (_, t)) _ _ rfl k₁
  · cases hp
theorem isPart_of : ∀ (q : Option (Int × Tok)), IsPart (partValue q) (q.map (·.1))
  | none => .none
  | some (i, t) => .int i t
theorem slice_post {x : Str} {t : Tok} {q₁ q₂ : Option (Int × Tok)} {Q : Value → Shared → Prop} {s : Shared} (hz : x.length ≤ sizeLine)
    (h : ∀ t' k, Q (.str (Txt.slice x (q₁.map (·.1)) (q₂.map (·.1))) t') { s with toks := k }) : (sliceMade x t q₁ q₂ none).post Q s := by
  have e : sliceMade x t q₁ q₂ none = if ((1 : Int) == 1 && (Builtin.Str.strSliceIndices (q₁.map (·.1)) (q₂.map (·.1)) 1 x.length).length == x.length) = true then Made.val (.str x t) else Made.str ⟨((Builtin.Str.strSliceIndices (q₁.map (·.1)) (q₂.map (·.1)) 1 x.length).filterMap (x.cps[·]?)).toArray⟩ := rfl
  rw [e]
  refine post_val_or_str ⟨?_, fun t' k => ?_⟩
  · exact Nat.le_trans (Txt.slice_le x _ _) hz
  · exact h t' k
noncomputable def mSlice (f : List DV → Option DV) (lo hi : List DV → Option (Option Int)) : List DV → Option DV := fun ρ => (f ρ).bind fun a => (lo ρ).bind fun l => (hi ρ).bind fun u => sliceD a l u
theorem se_slice {value : Expr} {l u : Option Expr} {p pos : Pos} {f : List DV → Option DV} {lo hi : List DV → Option (Option Int)} (hv : SE prog w c sc N value f) (hl : SP prog w c sc N l lo) (hu : SP prog w c sc N u hi) :
    SE prog w c sc N (.Subscript value (.Slice l u none p) pos) (mSlice f lo hi) := by
  intro A env s X aA ρ m cm d he hA hg hx hn hd Q E h
  obtain ⟨a, ha, hd⟩ := obind hd
  obtain ⟨b, hb, hd⟩ := obind hd
  obtain ⟨c, hc, hd⟩ := obind hd
  refine Subscript_ (hv A env s X aA ρ m cm a he hA hg hx hn ha _ _ fun v₁ h₁ tk₁ r₁ k₁ => ?_)
  refine wpAny_Slice (hl A env _ X aA ρ m cm b he hA (hg.keeps k₁) (hx.keeps k₁) (hn.keeps k₁) hb _ _ fun q₁ h₂ tk₂ e₁ k₂ => ?_)
  refine hu A env _ X aA ρ m cm c he hA ((hg.keeps k₁).keeps k₂) ((hx.keeps k₁).keeps k₂) ((hn.keeps k₁).keeps k₂) hc _ _ fun q₂ h₃ tk₃ e₂ k₃ => ?_
  rw [evalPart_none]
  refine wpAny_pure ?_
  have kk : ∀ b o, s.heap.get? b = some o → h₃.get? b = some o := fun b o e => k₃ b o (k₂ b o (k₁ b o e))
  have r₃ := (r₁.keeps k₂).keeps k₃
  have kp : ∀ b o, h₃.get? b = some o → (h₃.push { cls := .type "slice", data := .fields #[partValue q₁, partValue q₂, .none] }).get? b = some o := fun b o e => Heap.get?_push_of_some _ e
  have r₄ := r₃.keeps kp
  have x₄ := (((hx.keeps k₁).keeps k₂).keeps k₃).keeps kp
  unfold sliceD at hd
  split at hd
  · cases hd
    cases r₄ using Rel.lstC with
    | lst n1 l1 z1 q1 =>
      refine tail_any (ops := [.ref h₃.objs.size, _]) l1.isList.typeIs slot_list_getitem.lookup (wpAny_getItem_list_slice l1.isList (Heap.IsSliceOf.new ..) (e₁ ▸ isPart_of q₁) (e₂ ▸ isPart_of q₂) .none (by simp) ?_ (lt_sizeLine (by simpa using z1))) rfl
      rw [slicePick_eq]
      refine h _ _ _ (.lst (x₄.fresh (Nat.le_refl _)) ⟨_, Heap.get?_push_size _ rfl⟩ (Nat.le_trans (pick_le _ _ _) z1) ((q1.pick b c).keeps fun _ _ e => Heap.get?_push_of_some _ e)) fun b o e => Heap.get?_push_of_some _ (kp b o (kk b o e))
  · rename_i x
    cases hd
    cases r₄ with
    | str _ t hx' =>
      subst e₁ e₂
      exact tail_any (ops := [.ref h₃.objs.size, .str _ t]) (typeIs_str _ _ _) F.slot_str_getitem.lookup (wpAny_getItem_str_slice (l := q₁) (u := q₂) (st := none) ⟨_, Heap.get?_push_size _ rfl, rfl, rfl⟩ rfl
        (slice_post (lt_sizeLine hx') fun t' k => h _ _ _ (.str _ _ (Nat.le_trans (Txt.slice_le _ _ _) hx')) fun b o e => kp b o (kk b o e))) rfl
  · cases hd
noncomputable def SL (prog : Program) (w : World) (c : Cfg) (sc : List (Str × NameKind)) (N : List Str) (es : List Expr) (f : List DV → Option (List DV)) : Prop :=
  ∀ (A : Around) (env : Env) (s : Shared) (X : Addr → Prop) (aA : Option Addr) (ρ : List DV) (m cm : Str → Option Value) (ds : List DV) (pos : Pos), EnvOk env sc → Rm A → Glo c s.heap → XB s.heap X → Nm env N s.heap X aA ρ m cm → f ρ = some ds →
    ∀ (Q : List Value → Shared → Prop) (E : Value → Shared → Prop), (∀ vs h' tk, RelL h' X aA vs ds → (∀ b o, s.heap.get? b = some o → h'.get? b = some o) → Q vs { s with heap := h', toks := tk }) → wpAny (model prog w) A (spliced (backTo pos (starEach es env))) Q E s
noncomputable def lNil : List DV → Option (List DV) := fun _ => some []
noncomputable def lCons (f : List DV → Option DV) (g : List DV → Option (List DV)) : List DV → Option (List DV) := fun ρ => (f ρ).bind fun a => (g ρ).map (a :: ·)
theorem sl_nil : SL prog w c sc N [] lNil := by
  intro A env s X aA ρ m cm ds pos he hA hg hx hn hd Q E h
  cases hd
  exact wpAny_items_nil (h _ _ _ .nil fun _ _ e => e)
theorem sl_cons {e : Expr} {es : List Expr} {f : List DV → Option DV} {g : List DV → Option (List DV)} (hf : SE prog w c sc N e f) (hg' : SL prog w c sc N es g)
    (hst : ∀ env, starEach (e :: es) env = (false, eval e env) :: starEach es env := by intro _; rfl) : SL prog w c sc N (e :: es) (lCons f g) := by
  intro A env s X aA ρ m cm ds pos he hA hg hx hn hd Q E h
  obtain ⟨a, ha, hd⟩ := obind hd
  obtain ⟨ds', hds, rfl⟩ := omap hd
  refine wpAny_items_cons (hf A env s X aA ρ m cm a he hA hg hx hn ha _ _ fun v₁ h₁ tk₁ r₁ k₁ => ?_) (hst env)
  exact hg' A env _ X aA ρ m cm ds' pos he hA (hg.keeps k₁) (hx.keeps k₁) (hn.keeps k₁) hds _ _ fun vs h₂ tk₂ r₂ k₂ => h _ h₂ tk₂ (.cons (r₁.keeps k₂) r₂) fun b o e => k₂ b o (k₁ b o e)
noncomputable def mList (g : List DV → Option (List DV)) : List DV → Option DV := fun ρ => (g ρ).bind fun ds => if ds.length ≤ sizeB then some (.lst ds) else none
noncomputable def mTup (g : List DV → Option (List DV)) : List DV → Option DV := fun ρ => (g ρ).bind fun ds => if ds.length ≤ sizeB then some (.tup ds) else none
theorem se_list {es : List Expr} {pos : Pos} {g : List DV → Option (List DV)} (hg' : SL prog w c sc N es g) : SE prog w c sc N (.List es pos) (mList g) := by
  intro A env s X aA ρ m cm d he hA hg hx hn hd Q E h
  obtain ⟨ds, hds, hd⟩ := obind hd
  split at hd
  · rename_i hz
    cases hd
    refine wpAny_List (hg' A env s X aA ρ m cm ds pos he hA hg hx hn hds _ _ fun vs h₁ tk₁ r₁ k₁ => ?_)
    have hlen := r₁.length
    refine ⟨lt_sizeLine (by lia), h _ _ _ (.lst ((hx.keeps k₁).fresh (Nat.le_refl _)) ⟨_, Heap.get?_push_size _ rfl⟩ (by lia) (r₁.keeps fun _ _ e => Heap.get?_push_of_some _ e)) fun b o e => Heap.get?_push_of_some _ (k₁ b o e)⟩
  · cases hd
theorem se_tup {es : List Expr} {k : Nat} {pos : Pos} {g : List DV → Option (List DV)} (hg' : SL prog w c sc N es g) : SE prog w c sc N (.Tuple es k pos) (mTup g) := by
  intro A env s X aA ρ m cm d he hA hg hx hn hd Q E h
  obtain ⟨ds, hds, hd⟩ := obind hd
  split at hd
  · rename_i hz
    cases hd
    refine wpAny_Tuple (hg' A env s X aA ρ m cm ds pos he hA hg hx hn hds _ _ fun vs h₁ tk₁ r₁ k₁ => ?_)
    have hlen := r₁.length
    refine ⟨lt_sizeLine (by lia), h _ _ _ (.tup ((hx.keeps k₁).fresh (Nat.le_refl _)) ⟨_, Heap.get?_push_size _ rfl, rfl, _, rfl⟩ (by lia) (r₁.keeps fun _ _ e => Heap.get?_push_of_some _ e)) fun b o e => Heap.get?_push_of_some _ (k₁ b o e)⟩
  · cases hd
end
end Mine
end

section
open PySem PySem.Calls PyProof.Rows
namespace Mine
noncomputable def ins (a : Int) : List Int → List Int
  | [] => [a]
  | b :: r => if a ≤ b then a :: b :: r else b :: ins a r
noncomputable def inOrder : List Int → List Int
  | [] => []
  | a :: r => ins a (inOrder r)
theorem ins_perm (a : Int) : ∀ l, (ins a l).Perm (a :: l)
  | [] => .refl _
  | b :: r => by
    unfold ins
    split
    · exact .refl _
    · exact ((ins_perm a r).cons b).trans (.swap a b r)
theorem inOrder_perm : ∀ l, (inOrder l).Perm l
  | [] => .refl _
  | a :: r => (ins_perm a _).trans ((inOrder_perm r).cons a)
theorem ins_sorted (a : Int) : ∀ {l : List Int}, l.Pairwise (· ≤ ·) → (ins a l).Pairwise (· ≤ ·)
  | [], _ => by simp [ins]
  | b :: r, h => by
    rw [List.pairwise_cons] at h
    unfold ins
    split
    · rename_i hab
      refine List.pairwise_cons.mpr ⟨fun x hx => ?_, List.pairwise_cons.mpr h⟩
      rcases List.mem_cons.mp hx with rfl | hx
      · exact hab
      · exact Int.le_trans hab (h.1 x hx)
    · rename_i hab
      refine List.pairwise_cons.mpr ⟨fun x hx => ?_, ins_sorted a h.2⟩
      rcases List.mem_cons.mp ((ins_perm a r).mem_iff.mp hx) with rfl | hx
      · lia
      · exact h.1 x hx
theorem inOrder_sorted : ∀ l, (inOrder l).Pairwise (· ≤ ·)
  | [] => .nil
  | a :: r => ins_sorted a (inOrder_sorted r)
theorem inOrder_unique : ∀ {l l' : List Int}, l.Perm l' → l.Pairwise (· ≤ ·) → l'.Pairwise (· ≤ ·) → l = l'
  | [], l', p, _, _ => (List.Perm.nil_eq p)
  | a :: r, [], p, _, _ => by have := p.length_eq; simp at this
  | a :: r, b :: r', p, h, h' => by
    rw [List.pairwise_cons] at h h'
    have e : a = b := by
      have ha : a ∈ b :: r' := p.mem_iff.mp (.head _)
      have hb : b ∈ a :: r := p.mem_iff.mpr (.head _)
      rcases List.mem_cons.mp ha with e | ha
      · exact e
      · rcases List.mem_cons.mp hb with e | hb
        · exact e.symm
        · exact Int.le_antisymm (h.1 b hb) (h'.1 a ha)
    subst e
    rw [inOrder_unique (List.Perm.cons_inv p) h.2 h'.2]
section
variable {prog : Program} {w : World} {c : Cfg} {sc : List (Str × NameKind)} {N : List Str}
noncomputable def BI (prog : Program) (w : World) (v : Value) (k : List DV → Option DV) : Prop :=
  ∀ (A : Around) (s : Shared) (X : Addr → Prop) (aA : Option Addr) (vs : List Value) (ds : List DV) (d : DV), Rm A → XB s.heap X → RelL s.heap X aA vs ds → k ds = some d → Yields prog w A (call v vs) X aA s d
theorem RelL.one {h : Heap} {X : Addr → Prop} {aA : Option Addr} {vs : List Value} {d : DV} (r : RelL h X aA vs [d]) : ∃ v, vs = [v] ∧ Rel h X aA v d := by
  cases r using RelL.consC with
  | cons a b => cases b using RelL.nilC; exact ⟨_, rfl, a⟩
theorem RelL.two {h : Heap} {X : Addr → Prop} {aA : Option Addr} {vs : List Value} {d e : DV} (r : RelL h X aA vs [d, e]) : ∃ v u, vs = [v, u] ∧ Rel h X aA v d ∧ Rel h X aA u e := by
  cases r using RelL.consC with
  | cons a b =>
    obtain ⟨u, rfl, q⟩ := b.one
    exact ⟨_, _, rfl, a, q⟩
theorem RelL.three {h : Heap} {X : Addr → Prop} {aA : Option Addr} {vs : List Value} {d e f : DV} (r : RelL h X aA vs [d, e, f]) : ∃ v u t, vs = [v, u, t] ∧ Rel h X aA v d ∧ Rel h X aA u e ∧ Rel h X aA t f := by
  cases r using RelL.consC with
  | cons a b =>
    obtain ⟨u, t, rfl, q⟩ := b.two
    exact ⟨_, _, _, rfl, a, q⟩
noncomputable def arg1 : List DV → Option DV
  | [] => none
  | a :: r => match r with
    | [] => some a
    | _ :: _ => none
theorem arg1_some {ds : List DV} {d : DV} (h : arg1 ds = some d) : ds = [d] := by
  cases ds with
  | nil => cases h
  | cons a r => cases r with
    | nil => rw [Option.some.inj h]
    | cons => cases h
noncomputable def arg2 : List DV → Option (DV × DV)
  | [] => none
  | a :: r => (arg1 r).map fun b => (a, b)
theorem arg2_some {ds : List DV} {p : DV × DV} (h : arg2 ds = some p) : ds = [p.1, p.2] := by
  cases ds with
  | nil => cases h
  | cons a r =>
    obtain ⟨b, hb, rfl⟩ := omap (show (arg1 r).map (fun b => (a, b)) = some p from h)
    rw [arg1_some hb]
noncomputable def int1 (ds : List DV) : Option Int := (arg1 ds).bind intD
noncomputable def str1 (ds : List DV) : Option Str := (arg1 ds).bind strD
noncomputable def lst1 (ds : List DV) : Option (List DV) := (arg1 ds).bind lstD
section
variable {h : Heap} {X : Addr → Prop} {aA : Option Addr} {vs : List Value} {ds : List DV}
theorem RelL.arg1 {d : DV} (r : RelL h X aA vs ds) (e : Mine.arg1 ds = some d) : ∃ v, vs = [v] ∧ Rel h X aA v d := by
  cases arg1_some e
  exact r.one
theorem RelL.arg2 {p : DV × DV} (r : RelL h X aA vs ds) (e : Mine.arg2 ds = some p) : ∃ v u, vs = [v, u] ∧ Rel h X aA v p.1 ∧ Rel h X aA u p.2 := by
  cases arg2_some e
  exact r.two
theorem RelL.int1 {i : Int} (r : RelL h X aA vs ds) (e : Mine.int1 ds = some i) : ∃ t, vs = [.int i t] := by
  obtain ⟨d, h1, h2⟩ := obind e
  obtain ⟨v, rfl, q⟩ := r.arg1 h1
  cases intD_some h2
  cases q using Rel.intC
  exact ⟨_, rfl⟩
theorem RelL.str1 {x : Str} (r : RelL h X aA vs ds) (e : Mine.str1 ds = some x) : ∃ t, vs = [.str x t] ∧ x.length ≤ sizeB := by
  obtain ⟨d, h1, h2⟩ := obind e
  obtain ⟨v, rfl, q⟩ := r.arg1 h1
  cases strD_some h2
  cases q using Rel.strC with
  | str t l => exact ⟨_, rfl, l⟩
theorem RelL.lst1 {l : List DV} (r : RelL h X aA vs ds) (e : Mine.lst1 ds = some l) : ∃ a us, vs = [.ref a] ∧ h.PlainList a us.toArray ∧ RelL h X aA us l := by
  obtain ⟨d, h1, h2⟩ := obind e
  obtain ⟨v, rfl, q⟩ := r.arg1 h1
  cases lstD_some h2
  cases q using Rel.lstC with
  | lst n l z q => exact ⟨_, _, rfl, l, q⟩
end
noncomputable def lenI : DV → Option DV
  | .lst ds => some (.int ds.length)
  | .str x => some (.int x.length)
  | _ => none
noncomputable def lenD (ds : List DV) : Option DV := (arg1 ds).bind lenI
theorem bi_len : BI prog w (.builtin "len") lenD := by
  intro A s X aA vs ds d hA hx hr hd Q E h
  have hz : sizeB = 1048576 := rfl
  obtain ⟨d₁, h1, hd⟩ := obind (show (arg1 ds).bind lenI = some d from hd)
  obtain ⟨v, rfl, r⟩ := hr.arg1 h1
  cases d₁ with
  | lst l =>
    cases hd
    cases r using Rel.lstC with
    | lst n1 l1 z1 q1 =>
      have hlen := q1.length
      refine call_len_list l1.isList (by simp; lia) ?_
      rw [List.size_toArray, hlen]
      exact h _ _ _ (.int _ _) fun _ _ e => e
  | str x =>
    cases hd
    cases r using Rel.strC with
    | str t hx' => exact P.len_str (by lia) (h _ _ _ (.int _ _) fun _ _ e => e)
  | _ => exact nomatch (show (none : Option DV) = some d from hd)
theorem tagged {vs : List Value} {ns : List Int} (h : IntsAre vs ns) : ∃ xs : List (Int × Tok), vs = xs.map (fun p => Value.int p.1 p.2) ∧ ns = xs.map (·.1) := by
  induction h with
  | nil => exact ⟨[], rfl, rfl⟩
  | cons n t r ih =>
    obtain ⟨xs, a, b⟩ := ih
    exact ⟨(n, t) :: xs, by rw [a]; rfl, by rw [b]; rfl⟩
theorem preSum_all (xs : List (Int × Tok)) : preSum (numAt xs.toArray) xs.toArray.size = (xs.map (·.1)).sum := by
  rw [preSum_eq, List.take_of_length_le (by simp)]
theorem sum_raw {A : Around} {E : Value → Shared → Prop} {s : Shared} {l : Addr} {vs : List Value} {ns : List Int} {Q : Value → Shared → Prop} (hh : A.handled = none) (hl : s.heap.IsList l vs.toArray) (hi : IntsAre vs ns)
    (h : ∀ h' tk t', (∀ b o, s.heap.get? b = some o → h'.get? b = some o) → Q (.int ns.sum t') { s with heap := h', toks := tk }) : wpAny (model prog w) A (call (.builtin "sum") [.ref l]) Q E s := by
  obtain ⟨xs, rfl, rfl⟩ := tagged hi
  have hl' : s.heap.IsList l (intItems xs.toArray) := by simpa [intItems] using hl
  exact sum_intListG hh hl' fun h' tk t' hk => preSum_all xs ▸ h h' tk t' hk
noncomputable def sumD (ds : List DV) : Option DV := (lst1 ds).bind fun l => (asInts l).map fun ns => .int ns.sum
theorem bi_sum : BI prog w (.builtin "sum") sumD := by
  intro A s X aA vs ds d hA hx hr hd Q E h
  obtain ⟨l, h1, hd⟩ := obind (show (lst1 ds).bind _ = some d from hd)
  obtain ⟨ns, hns, rfl⟩ := omap hd
  obtain ⟨a, us, rfl, l1, q1⟩ := hr.lst1 h1
  exact sum_raw hA.handled l1.isList (q1.areInts hns) fun h' tk t' hk => h _ _ _ (.int _ _) hk
theorem RelL.ofInts {h : Heap} {X : Addr → Prop} {aA : Option Addr} {vs : List Value} {ns : List Int} (r : IntsAre vs ns) : RelL h X aA vs (ns.map .int) := by
  induction r with
  | nil => exact .nil
  | cons _ _ _ ih => exact .cons (.int _ _) ih
noncomputable def sortedD (ds : List DV) : Option DV := (lst1 ds).bind fun l => if l.length < 64 then (asInts l).map fun ns => .lst ((inOrder ns).map .int) else none
theorem asInts_length {ds : List DV} : ∀ {ns : List Int}, asInts ds = some ns → ns.length = ds.length := by
  induction ds with
  | nil => intro ns e; cases e; rfl
  | cons d ds ih =>
    intro ns e
    obtain ⟨i, m, rfl, e', rfl⟩ := asInts_cons e
    exact congrArg (· + 1) (ih e')
theorem bi_sorted : BI prog w (.builtin "sorted") sortedD := by
  intro A s X aA vs ds d hA hx hr hd Q E h
  obtain ⟨l, h1, hd⟩ := obind (show (lst1 ds).bind _ = some d from hd)
  split at hd
  · rename_i h64
    obtain ⟨ns, hns, rfl⟩ := omap hd
    obtain ⟨a, vs', rfl, l1, q1⟩ := hr.lst1 h1
    have hlen := q1.length
    refine sorted_ints l1.isList (q1.areInts hns) (by lia) fun out ns' a1 a2 a3 => ?_
    have e : ns' = inOrder ns := inOrder_unique (a2.trans (inOrder_perm ns).symm) a3 (inOrder_sorted ns)
    subst e
    obtain ⟨e, he⟩ := sortedAll_at s.heap vs' out
    have hk : ∀ b o, s.heap.get? b = some o → (sortedAll s.heap vs' out).get? b = some o := fun b o e => sortedAll_old e
    have hl1 := a1.length
    have hl2 := (inOrder_perm ns).length_eq
    have hl3 := asInts_length hns
    have hz : sizeB = 1048576 := rfl
    exact h _ _ _ (.lst (hx.fresh (Nat.le_succ _)) ⟨e, he⟩ (by lia) (RelL.ofInts a1)) hk
  · cases hd
noncomputable def chrD (ds : List DV) : Option DV := (int1 ds).bind fun i => if 0 ≤ i ∧ i ≤ 1114111 then some (.str ⟨#[i.toNat]⟩) else none
theorem bi_chr : BI prog w (.builtin "chr") chrD := by
  intro A s X aA vs ds d hA hx hr hd Q E h
  obtain ⟨i, h1, hd⟩ := obind (show (int1 ds).bind _ = some d from hd)
  obtain ⟨hi, rfl⟩ := iteC hd
  obtain ⟨t, rfl⟩ := hr.int1 h1
  exact PyProof.Rows.chr_of_range hi.1 hi.2 (h _ _ _ (.str _ _ (by show 1 ≤ sizeB; decide)) fun _ _ e => e)
noncomputable def two {α β : Type} (f : DV → Option α) (g : DV → Option β) (ds : List DV) : Option (α × β) := (arg2 ds).bind fun p => (f p.1).bind fun a => (g p.2).map fun b => (a, b)
theorem two_some {α β : Type} {f : DV → Option α} {g : DV → Option β} {ds : List DV} {a : α} {b : β} (h : two f g ds = some (a, b)) : ∃ x y, ds = [x, y] ∧ f x = some a ∧ g y = some b := by
  obtain ⟨p, hp, h⟩ := obind h
  obtain ⟨a', ha, h⟩ := obind h
  obtain ⟨b', hb, h⟩ := omap h
  cases h
  exact ⟨_, _, arg2_some hp, ha, hb⟩
noncomputable def minD (ds : List DV) : Option DV := (two intD intD ds).bind fun p => some (.int (if p.2 < p.1 then p.2 else p.1))
theorem min_raw {A : Around} {E : Value → Shared → Prop} {s : Shared} {a b : Int} {t u : Tok} {Q : Value → Shared → Prop} (hh : A.handled = none)
    (h : ∀ h' tk t', (∀ c o, s.heap.get? c = some o → h'.get? c = some o) → Q (.int (if b < a then b else a) t') { s with heap := h', toks := tk }) :
    wpAny (model prog w) A (call (.builtin "min") [.int a t, .int b u]) Q E s := by
  refine min_two_ints hh fun h' tk hk => ?_
  by_cases hb : b < a
  · simp only [if_pos hb] at h ⊢; exact h _ _ _ hk
  · simp only [if_neg hb] at h ⊢; exact h _ _ _ hk
theorem bi_min : BI prog w (.builtin "min") minD := by
  intro A s X aA vs ds d hA hx hr hd Q E h
  obtain ⟨⟨a, b⟩, h1, hd⟩ := obind (show (two intD intD ds).bind _ = some d from hd)
  cases hd
  obtain ⟨x, y, rfl, h1, h2⟩ := two_some h1
  cases intD_some h1
  cases intD_some h2
  obtain ⟨v, u, rfl, r, q⟩ := hr.two
  cases r using Rel.intC
  cases q using Rel.intC
  exact min_raw hA.handled fun h' tk t' hk => h _ _ _ (.int _ _) hk
noncomputable def rngD (a b st : Int) : Option DV := if st ≠ 0 ∧ st.natAbs < 1000 ∧ Builtin.Range.small a b st = true ∧ 0 ≤ Builtin.Range.rangeSize a b st ∧ Builtin.Range.rangeSize a b st ≤ 1048576 then some (.rng a st (Builtin.Range.rangeSize a b st).toNat) else none
noncomputable def rangeD : List DV → Option DV
  | [] => none
  | a :: r => (intD a).bind fun a => match r with
    | [] => rngD 0 a 1
    | b :: r => (intD b).bind fun b => match r with
      | [] => rngD a b 1
      | st :: r => (intD st).bind fun st => match r with
        | [] => rngD a b st
        | _ :: _ => none
theorem bi_range : BI prog w (.type "range") rangeD := by
  intro A s X aA vs ds d hA hx hr hd Q E h
  have hz : sizeB = 1048576 := rfl
  cases ds with
  | nil => cases hd
  | cons a r =>
    obtain ⟨a, ha, hd⟩ := obind (show (intD _).bind _ = some d from hd)
    cases intD_some ha
    cases r with
    | nil =>
      obtain ⟨hc, rfl⟩ := iteC (show (if _ then _ else _) = _ from hd)
      obtain ⟨v, rfl, r⟩ := hr.one
      cases r using Rel.intC
      exact call_range_1 (h _ _ _ (.rng (hx.fresh (Nat.le_refl _)) (IsRange.new ..) hc.2.2.1 (by lia) (by lia)) fun _ _ e => Heap.get?_push_of_some _ e)
    | cons b r =>
      obtain ⟨b, hb, hd⟩ := obind (show (intD _).bind _ = some d from hd)
      cases intD_some hb
      cases r with
      | nil =>
        obtain ⟨hc, rfl⟩ := iteC (show (if _ then _ else _) = _ from hd)
        obtain ⟨v, u, rfl, r, q⟩ := hr.two
        cases r using Rel.intC
        cases q using Rel.intC
        exact call_range_2 (h _ _ _ (.rng (hx.fresh (Nat.le_refl _)) (IsRange.new ..) hc.2.2.1 (by lia) (by lia)) fun _ _ e => Heap.get?_push_of_some _ e)
      | cons st r =>
        obtain ⟨st, hst, hd⟩ := obind (show (intD _).bind _ = some d from hd)
        cases intD_some hst
        cases r with
        | nil =>
          obtain ⟨hc, rfl⟩ := iteC (show (if _ then _ else _) = _ from hd)
          obtain ⟨v, u, t, rfl, r, q, y⟩ := hr.three
          cases r using Rel.intC
          cases q using Rel.intC
          cases y using Rel.intC
          exact call_range_3 hc.1 (h _ _ _ (.rng (hx.fresh (Nat.le_refl _)) (IsRange.new ..) hc.2.2.1 (by lia) (by lia)) fun _ _ e => Heap.get?_push_of_some _ e) (.inl (PyProof.noPylong_small (by omega)))
        | cons => cases hd
noncomputable def rngInts (a st : Int) (n : Nat) : List Int := (List.range n).map fun (i : Nat) => a + (i : Int) * st
theorem areInts_of {vs : List Value} : ∀ {ns : List Int}, vs.length = ns.length → (∀ (i : Nat) (v : Value), vs[i]? = some v → ∃ t, v = Value.int (ns.getD i 0) t) → IntsAre vs ns := by
  induction vs with
  | nil =>
    intro ns h _
    cases ns with
    | nil => exact .nil
    | cons => cases h
  | cons v vs ih =>
    intro ns hl h
    cases ns with
    | nil => cases hl
    | cons n ns =>
      obtain ⟨t, e⟩ := h 0 v rfl
      cases (show v = .int n t from e)
      exact .cons n t (ih (Nat.succ.inj hl) fun i u hu => h (i + 1) u hu)
theorem rng_are {a st : Int} {n : Nat} {acc : List Value} (h : ItemsOf (fun i v => ∃ t, v = Value.int (a + i * st) t) acc.toArray n) : acc.length = n ∧ IntsAre acc (rngInts a st n) := by
  have hlen : acc.length = n := by simpa using h.1
  refine ⟨hlen, areInts_of (by rw [hlen]; simp [rngInts]) fun i v hv => ?_⟩
  have hlt : i < n := hlen ▸ (List.getElem?_eq_some_iff.mp hv).1
  obtain ⟨t, e⟩ := h.2 i v (by simpa using hv)
  exact ⟨t, by rw [e]; simp [rngInts, List.getD, hlt]⟩
noncomputable def rngI : DV → Option (Int × Int × Nat)
  | .rng a st n => some (a, st, n)
  | _ => none
theorem rngI_some {d : DV} {p : Int × Int × Nat} (h : rngI d = some p) : d = .rng p.1 p.2.1 p.2.2 := by
  cases d with
  | rng a st n => cases h; rfl
  | _ => exact nomatch (show (none : Option (Int × Int × Nat)) = some p from h)
noncomputable def listD (ds : List DV) : Option DV := (arg1 ds).bind fun d => (rngI d).bind fun p => some (.lst ((rngInts p.1 p.2.1 p.2.2).map .int))
theorem bi_list : BI prog w (.type "list") listD := by
  intro A s X aA vs ds d hA hx hr hd Q E h
  have hz : sizeB = 1048576 := rfl
  obtain ⟨d₁, h1, hd⟩ := obind (show (arg1 ds).bind _ = some d from hd)
  obtain ⟨⟨a, st, n⟩, h2, hd⟩ := obind hd
  obtain ⟨v, rfl, r⟩ := hr.arg1 h1
  cases rngI_some h2
  cases hd
  cases r using Rel.rngC with
  | rng n1 hi hs hn hl =>
    refine call_list_range hA.handled hi hs hn (by lia) fun h' tk acc' c' hk hS hit => ?_
    obtain ⟨acc'⟩ := acc'
    obtain ⟨h1, h2⟩ := rng_are hit
    exact h _ _ _ (.lst (hx.fresh (Nat.le_refl _)) ⟨c', hS⟩ (h1 ▸ hl) (RelL.ofInts h2)) hk
noncomputable def hexD (ds : List DV) : Option DV := (int1 ds).bind fun i => if (baseText "0x" 16 i).length ≤ sizeB then some (.str (baseText "0x" 16 i)) else none
theorem bi_hex : BI prog w (.builtin "hex") hexD := by
  intro A s X aA vs ds d hA hx hr hd Q E h
  obtain ⟨i, h1, hd⟩ := obind (show (int1 ds).bind _ = some d from hd)
  obtain ⟨hc, rfl⟩ := iteC hd
  obtain ⟨t, rfl⟩ := hr.int1 h1
  exact P.hex_of_int (h _ _ _ (.str _ _ hc) fun _ _ e => e) (lt_sizeLine hc)
noncomputable def lowerD (ds : List DV) : Option DV := (str1 ds).bind fun x => if (Txt.lower x).length ≤ sizeB then some (.str (Txt.lower x)) else none
theorem notLong {n : Nat} (h : n ≤ sizeB) : Builtin.Str.tooLong n = false := by
  unfold Builtin.Str.tooLong
  have h1 : sizeLine = 16777216 := rfl
  have h2 : sizeB = 1048576 := rfl
  simp; lia
theorem bi_lower : BI prog w (.builtin "str.lower") lowerD := by
  intro A s X aA vs ds d hA hx hr hd Q E h
  obtain ⟨x, h1, hd⟩ := obind (show (str1 ds).bind _ = some d from hd)
  obtain ⟨hc, rfl⟩ := iteC hd
  obtain ⟨t, rfl, _⟩ := hr.str1 h1
  exact SC.lower (notLong hc) (h _ _ _ (.str _ _ hc) fun _ _ e => e)
noncomputable def asStrs : List DV → Option (List Str)
  | [] => some []
  | .str x :: r => (asStrs r).map (x :: ·)
  | _ :: _ => none
theorem asStrs_cons {d : DV} {r : List DV} {ys : List Str} (e : asStrs (d :: r) = some ys) : ∃ y m, d = .str y ∧ asStrs r = some m ∧ ys = y :: m := by
  cases d
  case str y =>
    obtain ⟨m, e', rfl⟩ := omap (show (asStrs r).map (y :: ·) = some ys from e)
    exact ⟨y, m, rfl, e', rfl⟩
  all_goals exact nomatch (show (none : Option (List Str)) = some ys from e)
theorem RelL.areStrs {h : Heap} {X : Addr → Prop} {aA : Option Addr} {ds : List DV} : ∀ {vs : List Value} {ys : List Str}, RelL h X aA vs ds → asStrs ds = some ys → ∃ l : List (Str × Tok), vs = strValues l ∧ l.map (·.1) = ys ∧ StrsAre vs ys := by
  induction ds with
  | nil => intro vs ys r e; cases r using RelL.nilC; cases e; exact ⟨[], rfl, rfl, .nil⟩
  | cons d ds ih =>
    intro vs ys r e
    obtain ⟨y, m, rfl, e', rfl⟩ := asStrs_cons e
    cases r using RelL.consC with
    | cons a b =>
      obtain ⟨l, rfl, rfl, q⟩ := ih b e'
      cases a using Rel.strC with
      | str t hx => exact ⟨(_, t) :: l, rfl, rfl, .cons _ _ q⟩
noncomputable def joinD (ds : List DV) : Option DV := (two strD lstD ds).bind fun p => (asStrs p.2).bind fun ys => if JoinOk p.1 ys = true ∧ (Txt.join p.1 ys).length ≤ sizeB then some (.str (Txt.join p.1 ys)) else none
theorem bi_join : BI prog w (.builtin "str.join") joinD := by
  intro A s X aA vs ds d hA hx hr hd Q E h
  obtain ⟨⟨x, l⟩, h1, hd⟩ := obind (show (two strD lstD ds).bind _ = some d from hd)
  obtain ⟨ys, hys, hd⟩ := obind hd
  obtain ⟨hc, rfl⟩ := iteC hd
  obtain ⟨x', y', rfl, h1, h2⟩ := two_some h1
  cases strD_some h1
  cases lstD_some h2
  obtain ⟨v, u, rfl, r, q⟩ := hr.two
  cases r using Rel.strC
  cases q using Rel.lstC with
  | lst n1 l1 z1 q1 =>
    obtain ⟨l, rfl, e, _⟩ := q1.areStrs hys
    exact SC.join l1.isList e hc.1 fun t' k => h _ _ _ (.str _ _ hc.2) fun _ _ e => e
noncomputable def splitIt (x y : Str) : List Str := Builtin.Str.partsBetween x (Builtin.Str.occurrences x y 0 x.length (x.length + 1)) y.length
noncomputable def splitD (ds : List DV) : Option DV := (two strD strD ds).bind fun p => if (decide (p.1.length < p.2.length) || decide (Builtin.Str.strKind p.1 < Builtin.Str.strKind p.2)) = false ∧ (p.2.length == 0) = false ∧ (Builtin.Str.occurrences p.1 p.2 0 p.1.length (p.1.length + 1)).isEmpty = false ∧
      (splitIt p.1 p.2).length ≤ sizeB ∧ (splitIt p.1 p.2).all (fun z => decide (z.length ≤ sizeB)) = true then
    some (.lst ((splitIt p.1 p.2).map .str)) else none
theorem strsFrom_rel {h : Heap} {X : Addr → Prop} {aA : Option Addr} : ∀ (ys : List Str) (tk : Nat), ys.all (fun z => decide (z.length ≤ sizeB)) = true → RelL h X aA (strsFrom tk ys) (ys.map .str)
  | [], _, _ => .nil
  | y :: ys, tk, e => by
    rw [List.all_cons, Bool.and_eq_true] at e
    exact .cons (.str _ _ (of_decide_eq_true e.1)) (strsFrom_rel ys _ e.2)
theorem bi_split : BI prog w (.builtin "str.split") splitD := by
  intro A s X aA vs ds d hA hx hr hd Q E h
  obtain ⟨⟨x, y⟩, h1, hd⟩ := obind (show (two strD strD ds).bind _ = some d from hd)
  obtain ⟨⟨h1', h2, h3, h4, h5⟩, rfl⟩ := iteC hd
  obtain ⟨x', y', rfl, e1, e2⟩ := two_some h1
  cases strD_some e1
  cases strD_some e2
  obtain ⟨v, u, rfl, r, q⟩ := hr.two
  cases r using Rel.strC with
  | str t hl =>
    cases q using Rel.strC with
    | str t' hl' =>
      refine call_meets F.slot_str_split (typeIs_str _ _ _) F.entry_str_split (F.args_str_split_2 _ _) (meets_str_split_sep _ _ t t' h1' h2 h3 (lt_sizeLine hl) (lt_sizeLine h4)) ?_
      have q := strsFrom_rel (h := s.heap.push { cls := .type "list", data := .seq (strsFrom s.toks (splitIt x y)).toArray }) (X := X) (aA := aA) _ s.toks h5
      exact h _ _ _ (.lst (hx.fresh (Nat.le_refl _)) ⟨_, Heap.get?_push_size _ rfl⟩ (Nat.le_trans (Nat.le_of_eq (q.length.trans (List.length_map _))) h4) q) fun _ _ e => Heap.get?_push_of_some _ e
noncomputable def firstAt (k : Str) : List Str → Option Nat
  | [] => none
  | y :: r => if y = k then some 0 else (firstAt k r).map (· + 1)
theorem firstAt_spec (k : Str) {ys : List Str} {vs : List Value} (h : StrsAre vs ys) : ∀ {j : Nat}, firstAt k ys = some j → ∃ hj : j < vs.length, isStrOf k vs[j] = true ∧ ∀ m (hm : m < vs.length), m < j → isStrOf k vs[m] = false := by
  induction h with
  | nil => intro j e; cases e
  | cons y t q ih =>
    intro j e
    unfold firstAt at e
    split at e
    · rename_i he
      cases e
      exact ⟨by simp, by simp [isStrOf, he], fun m hm h0 => absurd h0 (Nat.not_lt_zero _)⟩
    · rename_i he
      obtain ⟨j', e', rfl⟩ := omap e
      obtain ⟨hj, a, b⟩ := ih e'
      refine ⟨by simpa using hj, by simpa using a, fun m hm h0 => ?_⟩
      cases m with
      | zero => simp [isStrOf, he]
      | succ m => simpa using b m (by simpa using hm) (by lia)
noncomputable def indexD (ds : List DV) : Option DV := (two lstD strD ds).bind fun p => (asStrs p.1).bind fun ys => (firstAt p.2 ys).map fun (j : Nat) => DV.int (j : Int)
theorem bi_index : BI prog w (.builtin "list.index") indexD := by
  intro A s X aA vs ds d hA hx hr hd Q E h
  obtain ⟨⟨l, k⟩, h1, hd⟩ := obind (show (two lstD strD ds).bind _ = some d from hd)
  obtain ⟨ys, hys, hd⟩ := obind hd
  obtain ⟨j, hj, rfl⟩ := omap hd
  obtain ⟨x', y', rfl, e1, e2⟩ := two_some h1
  cases lstD_some e1
  cases strD_some e2
  obtain ⟨v, u, rfl, r, q⟩ := hr.two
  cases q using Rel.strC with
  | str t hl =>
    cases r using Rel.lstC with
    | @lst _ vs' n1 l1 z1 q1 =>
      obtain ⟨l, _, _, hs⟩ := q1.areStrs hys
      obtain ⟨h1, h2, h3⟩ := firstAt_spec _ hs hj
      obtain ⟨n, ho⟩ := l1
      have hz : sizeB = 1048576 := rfl
      refine call_meets F.slot_list_index ⟨_, ho, rfl⟩ F.entry_list_index (F.args_list_index_2 _ _)
        (MeetsSeq.list_index _ vs'.toArray n (.str _ t) (isStrOf _) (fun y hy => eq_isStrOf _ t hs y (by simpa using hy)) j (by simpa using h1) (by lia) (by simpa using h2) (fun m hm hlt => by simpa using h3 m (by simpa using hm) hlt)) ⟨ho, ?_⟩
      exact h _ _ _ (.int _ _) fun _ _ e => e
end
end Mine
end

section
open PySem PySem.Calls PyProof.Rows
set_option maxRecDepth 100000
namespace Mine
section
variable {prog : Program} {w : World} {c : Cfg} {sc : List (Str × NameKind)} {N : List Str}
theorem load_global {A : Around} {env : Env} {s : Shared} {x : Str} {pos : Pos} {v : Value} {Q : Value → Shared → Prop} {E : Value → Shared → Prop} (he : EnvOk env sc) (hg : Glo c s.heap) (hk : sc.lookup x = some .globalImplicit) (hv : c.mg x = some v)
    (hd : (x == ("__debug__" : Str)) = false) (h : Q v s) : wpAny (model prog w) A (eval (.Name x pos) env) Q E s :=
  Calls.Name_function_global he.kind (by rw [he.kindOf]; exact hk) (Calls.loadGlobal_global (by rw [he.globals]; exact hg.g) hv h) hd
theorem load_builtin {A : Around} {env : Env} {s : Shared} {x : Str} {pos : Pos} {v : Value} {Q : Value → Shared → Prop} {E : Value → Shared → Prop} (he : EnvOk env sc) (hg : Glo c s.heap) (hk : sc.lookup x = some .globalImplicit) (hn : c.mg x = none) (hv : c.mb x = some v)
    (hd : (x == ("__debug__" : Str)) = false) (h : Q v s) : wpAny (model prog w) A (eval (.Name x pos) env) Q E s :=
  Calls.Name_function_global he.kind (by rw [he.kindOf]; exact hk) (Calls.loadGlobal_builtin (by rw [he.globals]; exact hg.g) hn (by rw [he.builtins]; exact hg.b) hv h) hd
theorem se_con_int {x : Str} {pos : Pos} {i : Int} {t : Tok} (hk : sc.lookup x = some .globalImplicit) (hv : c.mg x = some (.int i t)) (hd : (x == ("__debug__" : Str)) = false := by decide +kernel) : SE prog w c sc N (.Name x pos) (mInt i) := by
  intro A env s X aA ρ m cm d he hr hg hx hn hf Q E h
  cases hf
  exact load_global he hg hk hv hd (h _ _ _ (.int i t) fun _ _ e => e)
noncomputable def mCall (k : List DV → Option DV) (g : List DV → Option (List DV)) : List DV → Option DV := fun ρ => (g ρ).bind k
theorem se_call_bi {x : Str} {np pos : Pos} {e : Expr} {es : List Expr} {id : String} {g : List DV → Option (List DV)} {k : List DV → Option DV} (hb : BI prog w (.builtin id) k) (hk : sc.lookup x = some .globalImplicit) (hn : c.mg x = none) (hv : c.mb x = some (.builtin id))
    (hg' : SL prog w c sc N (e :: es) g) (hd : (x == ("__debug__" : Str)) = false := by decide +kernel) (hst : ∀ env, starEach (e :: es) env = (false, eval e env) :: starEach es env := by intro _; rfl) (hpl : ∀ env pos, (backTo pos (starEach es env)).any (·.1) = false := by intro _ _; rfl) :
    SE prog w c sc N (.Call (.Name x np) (e :: es) [] pos) (mCall k g) := by
  intro A env s X aA ρ m cm d he hA hg hx hn' hf Q E h
  obtain ⟨ds, hds, hf⟩ := obind hf
  refine wpAny_Call_NameR (load_builtin he hg hk hn hv hd (PyProof.Rows.callWith_builtin1 ?_ (hst _) (hpl _ _)))
  exact hg' A env s X aA ρ m cm ds pos he hA hg hx hn' hds _ _ fun vs h₁ tk₁ r₁ k₁ => hb A _ X aA vs ds d hA (hx.keeps k₁) r₁ hf _ _ fun v h₂ tk₂ r₂ k₂ => h v h₂ tk₂ r₂ fun b o e => k₂ b o (k₁ b o e)
theorem se_call_ty {x : Str} {np pos : Pos} {e : Expr} {es : List Expr} {T : String} {g : List DV → Option (List DV)} {k : List DV → Option DV} (hb : BI prog w (.type T) k) (hk : sc.lookup x = some .globalImplicit) (hn : c.mg x = none) (hv : c.mb x = some (.type T))
    (hg' : SL prog w c sc N (e :: es) g) (hd : (x == ("__debug__" : Str)) = false := by decide +kernel) (hst : ∀ env, starEach (e :: es) env = (false, eval e env) :: starEach es env := by intro _; rfl) (hpl : ∀ env pos, (backTo pos (starEach es env)).any (·.1) = false := by intro _ _; rfl) :
    SE prog w c sc N (.Call (.Name x np) (e :: es) [] pos) (mCall k g) := by
  intro A env s X aA ρ m cm d he hA hg hx hn' hf Q E h
  obtain ⟨ds, hds, hf⟩ := obind hf
  refine wpAny_Call_NameR (load_builtin he hg hk hn hv hd (PyProof.Rows.callWith_type1 ?_ (hst _) (hpl _ _)))
  exact hg' A env s X aA ρ m cm ds pos he hA hg hx hn' hds _ _ fun vs h₁ tk₁ r₁ k₁ => hb A _ X aA vs ds d hA (hx.keeps k₁) r₁ hf _ _ fun v h₂ tk₂ r₂ k₂ => h v h₂ tk₂ r₂ fun b o e => k₂ b o (k₁ b o e)
noncomputable def GMok (prog : Program) (w : World) (name : Str) (id : String) (ok : DV → Bool) : Prop :=
  ∀ (A : Around) (s : Shared) (X : Addr → Prop) (aA : Option Addr) (v : Value) (d : DV) (pl : Sem Bool) (Q : Value × List Value → Shared → Prop) (E : Value → Shared → Prop), Rel s.heap X aA v d → ok d = true → Q (.builtin id, [v]) s → wpAny (model prog w) A (getMethod v name pl) Q E s
noncomputable def isStr : DV → Bool
  | .str _ => true
  | _ => false
noncomputable def isLst : DV → Bool
  | .lst _ => true
  | _ => false
theorem gm_str {name : Str} {id : String} (h : ∀ (A : Around) (s : Shared) (x : Str) (t : Tok) (pl : Sem Bool) (Q : Value × List Value → Shared → Prop) (E : Value → Shared → Prop), Q (.builtin id, [.str x t]) s → wpAny (model prog w) A (getMethod (.str x t) name pl) Q E s) : GMok prog w name id isStr := by
  intro A s X aA v d pl Q E r ok q
  cases d with
  | str x =>
    cases r with
    | str _ t hl => exact h _ _ _ _ _ _ _ q
  | _ => cases ok
theorem gm_lower : GMok prog w "lower" "str.lower" isStr := gm_str fun _ _ _ _ _ _ _ q => GM.lower q
theorem gm_join : GMok prog w "join" "str.join" isStr := gm_str fun _ _ _ _ _ _ _ q => GM.join q
theorem gm_split : GMok prog w "split" "str.split" isStr := gm_str fun _ _ _ _ _ _ _ q => GM.split q
theorem gm_index : GMok prog w "index" "list.index" isLst := by
  intro A s X aA v d pl Q E r ok q
  cases d with
  | lst ds =>
   cases r using Rel.lstC with
   | lst n l z r =>
    obtain ⟨e, ho⟩ := l
    exact getMethod_list_of F.slot_list_index F.type_list_index ⟨_, ho, rfl, _, rfl⟩ ⟨_, ho, rfl⟩ q
  | _ => cases ok
theorem method_raw {A : Around} {env : Env} {s : Shared} {E : Value → Shared → Prop} {o : Expr} {name : Str} {apos pos : Pos} {args : List Expr} {Q : Value → Shared → Prop} (hbase : attributeBase o name env (eval o env) = eval o env)
    (hform : methodCallForm (args.length + ([] : List Keyword).length) (backTo pos (starEach args env)) [] = true) (hline : (apos.endLine == pos.line) = true)
    (h : wpAny (model prog w) A (eval o env) (fun ov s₁ => ∀ pl, wpAny (model prog w) A (getMethod ov name pl) (fun p s₂ => wpAny (model prog w) A (callWith pos p.1 p.2 (backTo pos (starEach args env)) []) Q E s₂) E s₁) E s) :
    wpAny (model prog w) A (eval (.Call (.Attribute o name apos) args [] pos) env) Q E s := by
  rw [arm_eval_Call, hbase]
  refine wpAny_bind (wpAny_mono h (fun ov s₁ h₁ => wpAny_bind (wpAny_standAt ?_)) fun _ _ e => e)
  have hpos : methodCallPos true o env apos pos = pure pos := by unfold methodCallPos; simp [hline]
  show wpAny _ A (methodCall o name apos pos env ov (args.length + ([] : List Keyword).length) (backTo pos (starEach args env)) []) Q E s₁
  unfold methodCall
  rw [hform]
  refine wpAny_bind (wpAny_holding (wpAny_mono (h₁ _) (fun p s₂ h₂ => ?_) fun _ _ e => e))
  exact wpAny_bind (wpAny_of_eq hpos h₂)
noncomputable def mMeth (ok : DV → Bool) (f : List DV → Option DV) (k : List DV → Option DV) (g : List DV → Option (List DV)) : List DV → Option DV := fun ρ => (f ρ).bind fun a => if ok a then (g ρ).bind fun ds => k (a :: ds) else none
theorem se_meth0 {o : Expr} {name : Str} {id : String} {apos pos : Pos} {ok : DV → Bool} {f : List DV → Option DV} {k : List DV → Option DV} (hm : GMok prog w name id ok) (hb : BI prog w (.builtin id) k) (hf : SE prog w c sc N o f)
    (hbase : ∀ env, attributeBase o name env (eval o env) = eval o env := by intro _; rfl) (hline : (apos.endLine == pos.line) = true := by rfl) :
    SE prog w c sc N (.Call (.Attribute o name apos) [] [] pos) (mMeth ok f k lNil) := by
  intro A env s X aA ρ m cm d he hA hg hx hn hd Q E h
  obtain ⟨a, ha, hd⟩ := obind hd
  split at hd
  · rename_i hok
    refine method_raw (hbase env) rfl hline (hf A env s X aA ρ m cm a he hA hg hx hn ha _ _ fun v₁ h₁ tk₁ r₁ k₁ pl => ?_)
    refine hm A _ X aA v₁ a pl _ _ r₁ hok (PyProof.Rows.callWith_method0 ?_)
    exact hb A _ X aA [v₁] [a] d hA (hx.keeps k₁) (.cons r₁ .nil) (by simpa [lNil] using hd) _ _ fun v h₂ tk₂ r₂ k₂ => h v h₂ tk₂ r₂ fun b o e => k₂ b o (k₁ b o e)
  · cases hd
theorem se_meth1 {o e : Expr} {es : List Expr} {name : Str} {id : String} {apos pos : Pos} {ok : DV → Bool} {f : List DV → Option DV} {g : List DV → Option (List DV)} {k : List DV → Option DV} (hm : GMok prog w name id ok) (hb : BI prog w (.builtin id) k) (hf : SE prog w c sc N o f) (hg' : SL prog w c sc N (e :: es) g)
    (hbase : ∀ env, attributeBase o name env (eval o env) = eval o env := by intro _; rfl) (hline : (apos.endLine == pos.line) = true := by rfl) (hform : ∀ env, methodCallForm ((e :: es).length + ([] : List Keyword).length) (backTo pos (starEach (e :: es) env)) [] = true := by intro _; rfl)
    (hst : ∀ env, starEach (e :: es) env = (false, eval e env) :: starEach es env := by intro _; rfl) (hpl : ∀ env pos, (backTo pos (starEach es env)).any (·.1) = false := by intro _ _; rfl) :
    SE prog w c sc N (.Call (.Attribute o name apos) (e :: es) [] pos) (mMeth ok f k g) := by
  intro A env s X aA ρ m cm d he hA hg hx hn hd Q E h
  obtain ⟨a, ha, hd⟩ := obind hd
  split at hd
  · rename_i hok
    obtain ⟨ds, hds, hd⟩ := obind hd
    refine method_raw (hbase env) (hform env) hline (hf A env s X aA ρ m cm a he hA hg hx hn ha _ _ fun v₁ h₁ tk₁ r₁ k₁ pl => ?_)
    refine hm A _ X aA v₁ a pl _ _ r₁ hok (PyProof.Rows.callWith_method1 ?_ (hst _) (hpl _ _))
    refine hg' A env _ X aA ρ m cm ds pos he hA (hg.keeps k₁) (hx.keeps k₁) (hn.keeps k₁) hds _ _ fun vs h₂ tk₂ r₂ k₂ => ?_
    exact hb A _ X aA (v₁ :: vs) (a :: ds) d hA ((hx.keeps k₁).keeps k₂) (.cons (r₁.keeps k₂) r₂) hd _ _ fun v h₃ tk₃ r₃ k₃ => h v h₃ tk₃ r₃ fun b o e => k₃ b o (k₂ b o (k₁ b o e))
  · cases hd
noncomputable def mGet (T : Int → Option Str) (f g : List DV → Option DV) : List DV → Option DV := fun ρ => (f ρ).bind fun a => (g ρ).bind fun b => match a, b with
  | .int i, .str y => match T i with
    | some z => if z.length ≤ sizeB then some (.str z) else none
    | none => some (.str y)
  | _, _ => none
theorem se_get {x : Str} {np apos pos : Pos} {e₁ e₂ : Expr} {D : Addr} {T : Int → Option Str} {f g : List DV → Option DV} (hk : sc.lookup x = some .globalImplicit) (hv : c.mg x = some (.ref D)) (hD : (D == sysModules) = false) (hdict : ∃ ob, c.h₁.get? D = some ob ∧ ob.cls = .type "dict" ∧ ob.dict = none) (hP₁ : D ≠ c.P₁) (hP₂ : D ≠ c.P₂)
    (hF : ∃ G : Int → Option Value, c.h₁.MapOf (intKind prog w) D G ∧ ∀ i, match T i with | some z => ∃ t, G i = some (.str z t) | none => G i = none) (hf : SE prog w c sc N e₁ f) (hg' : SE prog w c sc N e₂ g)
    (hd : (x == ("__debug__" : Str)) = false := by decide +kernel) (hline : (apos.endLine == pos.line) = true := by rfl)
    (hst : ∀ env, backTo pos (starEach [e₁, e₂] env) = [(false, eval e₁ env), (false, eval e₂ env)] := by intro _; rfl) :
    SE prog w c sc N (.Call (.Attribute (.Name x np) "get" apos) [e₁, e₂] [] pos) (mGet T f g) := by
  intro A env s X aA ρ m cm d he hA hg hx hn hd' Q E h
  obtain ⟨a, ha, hd'⟩ := obind hd'
  obtain ⟨b, hb, hd'⟩ := obind hd'
  obtain ⟨ob, ho, hc1, hc2⟩ := hdict
  obtain ⟨G, hG, hFG⟩ := hF
  have kp : ∀ {h' : Heap}, (∀ b o, s.heap.get? b = some o → h'.get? b = some o) → h'.get? D = some ob := fun k => k _ _ (hg.keep _ _ ho hP₁ hP₂)
  refine method_raw rfl (by rw [hst]; rfl) hline (load_global he hg hk hv hd fun pl => ?_)
  refine getMethod_builtin ⟨_, kp fun _ _ e => e, hc1⟩ F.plainAttrs_dict F.slot_dict_get F.type_dict_get (fun a e => by cases e; exact ⟨_, kp fun _ _ e => e, hc2⟩) ?_
  rw [hst]
  refine wpAny_dict_get2 (knd := intKind prog w) hD (hf A env s X aA ρ m cm a he hA hg hx hn ha _ _ fun v₁ h₁ tk₁ r₁ k₁ => ?_)
  refine hg' A env _ X aA ρ m cm b he hA (hg.keeps k₁) (hx.keeps k₁) (hn.keeps k₁) hb _ _ fun v₂ h₂ tk₂ r₂ k₂ => ?_
  have kk : ∀ b o, s.heap.get? b = some o → h₂.get? b = some o := fun b o e => k₂ b o (k₁ b o e)
  split at hd'
  · rename_i i y _
    cases r₁ using Rel.intC
    have hm : h₂.MapOf (intKind prog w) D G := by
      obtain ⟨o', es, ep, ho', r⟩ := hG
      exact ⟨o', es, ep, kk _ _ (hg.keep _ _ ho' hP₁ hP₂), r⟩
    refine ⟨i, G, intKind_is prog w i _, hm, ?_⟩
    have q := hFG i
    split at hd'
    · rename_i z hz
      rw [hz] at q
      obtain ⟨t, q⟩ := q
      rw [q]
      split at hd'
      · rename_i hl
        cases hd'
        exact h _ _ _ (.str _ _ hl) kk
      · cases hd'
    · rename_i hz
      rw [hz] at q
      rw [q]
      cases hd'
      exact h _ _ _ r₂ kk
  · cases hd'
end
end Mine
end

section
open PySem PySem.Calls PyProof.Rows
set_option maxRecDepth 100000
namespace Mine
section
variable {prog : Program} {w : World} {c : Cfg} {sc : List (Str × NameKind)} {N : List Str}
noncomputable def itemsD : DV → Option (List DV)
  | .lst ds => some ds
  | .rng a st n => some ((rngInts a st n).map .int)
  | _ => none
theorem iter_ok {A : Around} {s : Shared} {X : Addr → Prop} {aA : Option Addr} {v : Value} {d : DV} {ds : List DV} {Q : Value → Shared → Prop} {E : Value → Shared → Prop} (hh : A.handled = none) (r : Rel s.heap X aA v d) (hd : itemsD d = some ds)
    (h : ∀ (h' : Heap) (fp : List Addr) (P : Nat → Value → Prop) (St : Nat → Heap → Prop), h'.objs.size = s.heap.objs.size + 1 → (∀ b o, s.heap.get? b = some o → h'.get? b = some o) → Walks prog w A s.heap.objs.size fp [s.heap.objs.size] ds.length P St → St 0 h' →
      (∀ b ∈ fp, b = s.heap.objs.size ∨ (¬ X b ∧ ∃ o, s.heap.get? b = some o)) → (∀ i v, P i v → ∃ d, ds[i]? = some d ∧ Rel s.heap X aA v d) → ds.length ≤ sizeB → Q (.ref s.heap.objs.size) { s with heap := h' }) : wpAny (model prog w) A (pyIter v) Q E s := by
  unfold itemsD at hd
  split at hd
  · cases hd
    cases r with
    | @lst a vs _ n1 l1 z1 q1 =>
      have hol : ∃ o, s.heap.get? a = some o := let ⟨_, e⟩ := l1; ⟨_, e⟩
      have hne : a ≠ s.heap.objs.size := let ⟨_, e⟩ := hol; Nat.ne_of_lt (Heap.lt_size e)
      refine wpAny_pyIter_list l1.isList ?_
      have W := Walks.list (prog := prog) (w := w) hh s.heap.objs.size a hne vs.toArray
      have hlen : vs.toArray.size = ds.length := by simp [q1.length]
      rw [hlen] at W
      refine h _ _ _ _ (Heap.size_push ..) (fun b o e => Heap.get?_push_of_some _ e) W ⟨⟨_, Heap.get?_push_size _ rfl, rfl, rfl⟩, l1.isList.at fun o e => Heap.get?_push_of_some _ e⟩ ?_ ?_ (q1.length ▸ z1)
      · intro b hb
        rcases List.mem_cons.mp hb with e | hb
        · exact .inl e
        · rw [List.mem_singleton.mp hb]; exact .inr ⟨n1, hol⟩
      · intro i v hv
        exact q1.get' (by simpa using hv)
  · rename_i a₀ k₀ n₀
    cases hd
    cases r with
    | rng n1 hi hs hn hl =>
      refine wpAny_pyIter_range hi hs ?_
      have W := (Walks.range (prog := prog) (w := w) hh s.heap.objs.size a₀ k₀ n₀).bound
      have hlen : ((rngInts a₀ k₀ n₀).map DV.int).length = n₀ := by simp [rngInts]
      rw [← hlen] at W
      refine h _ _ _ _ (Heap.size_push ..) (fun b o e => Heap.get?_push_of_some _ e) W ?_ (fun b hb => .inl (List.mem_singleton.mp hb)) ?_ (by rw [hlen]; exact hl)
      · show IsRangeIter _ _ _ _ _
        rw [hn, hlen]
        simpa using Heap.get?_push_size _ rfl
      · rintro i v ⟨hi, t, rfl⟩
        rw [hlen] at hi
        exact ⟨.int (a₀ + i * k₀), by simp [rngInts, hi], .int _ _⟩
  · cases hd
noncomputable def flat : DV → Bool
  | .int _ => true
  | .str _ => true
  | _ => false
noncomputable def dOf : Value → DV
  | .int i _ => .int i
  | .str x _ => .str x
  | _ => .undef
theorem dOf_rel {h : Heap} {X : Addr → Prop} {aA : Option Addr} {v : Value} {d : DV} (r : Rel h X aA v d) (hf : flat d = true) : dOf v = d := by
  cases r <;> first | rfl | cases hf
theorem flat_rel {h h' : Heap} {X X' : Addr → Prop} {aA aA' : Option Addr} {v : Value} {d : DV} (r : Rel h X aA v d) (hf : flat d = true) : Rel h' X' aA' v d := by
  cases r with
  | int i t => exact .int i t
  | str x t hl => exact .str x t hl
  | _ => cases hf
noncomputable def inner (vis : List Nat) (j : Nat) (d : DV) (ρ : List DV) : List DV := ρ.mapIdx fun i e => if i = j then d else if vis.contains i then e else .undef
noncomputable def compGo (fc : DV → Option Bool) (fe : DV → Option DV) : List DV → Option (List DV)
  | [] => some []
  | d :: r => if flat d then (fc d).bind fun b => if b then (fe d).bind fun e => if flat e then (compGo fc fe r).map (e :: ·) else none else compGo fc fe r else none
noncomputable def mComp (j : Nat) (vis : List Nat) (fi : List DV → Option DV) (fc : List DV → Option Bool) (fe : List DV → Option DV) : List DV → Option DV := fun ρ =>
  (fi ρ).bind fun a => (itemsD a).bind fun ds => if j < ρ.length then (compGo (fun d => fc (inner vis j d ρ)) (fun d => fe (inner vis j d ρ)) ds).map .lst else none
noncomputable def relabelN (sc names : List (Str × NameKind)) : List (Str × NameKind) := names.map fun (n, k) => if (k == .free && sc.lookup n == some .cell) then (n, .cell) else (n, k)
noncomputable def clOf (cells : List (Str × Addr)) : List (Str × NameKind) → List (Str × Addr) → List (Str × Addr)
  | [], acc => acc
  | (n, k) :: r, acc => if k == .free then (match cells.lookup n with | some a => clOf cells r ((n, a) :: acc) | none => clOf cells r acc) else clOf cells r acc
theorem closure_go (env : Env) : ∀ (names : List (Str × NameKind)) (acc : List (Str × Addr)), (∀ n, (n, NameKind.free) ∈ names → (env.cells.lookup n).isSome = true) →
    (forIn names acc fun x cs => (match x with | (name, kind) => if kind == NameKind.free then (do let a ← cellOf env name; pure (ForInStep.yield ((name, a) :: cs))) else pure (ForInStep.yield cs) : Sem (ForInStep (List (Str × Addr))))) = pure (clOf env.cells names acc)
  | [], acc, _ => by rw [List.forIn_nil]; rfl
  | (n, k) :: r, acc, h => by
    have ih := fun acc => closure_go env r acc fun n hn => h n (.tail _ hn)
    rw [List.forIn_cons]
    unfold clOf
    by_cases hk : (k == NameKind.free) = true
    · have hk' : k = .free := by simpa using hk
      obtain ⟨a, ha⟩ := Option.isSome_iff_exists.mp (h n (hk' ▸ .head _))
      simp only [hk, if_true, ha]
      have hc : cellOf env n = pure a := by unfold cellOf; rw [ha]
      rw [hc]
      exact ih _
    · simp only [hk]
      exact ih _
theorem closure_is {env : Env} {scope : Scope} (h : ∀ n, (n, NameKind.free) ∈ scope.names → (env.cells.lookup n).isSome = true) : closureFor scope env = pure (clOf env.cells scope.names []) := by
  have e := closure_go env scope.names [] h
  unfold closureFor
  have : (forIn scope.names ([] : List (Str × Addr)) fun x cs => (match x with | (name, kind) => if kind == NameKind.free then (do let a ← cellOf env name; pure (ForInStep.yield ((name, a) :: cs))) else pure (ForInStep.yield cs) : Sem (ForInStep (List (Str × Addr))))) = (forIn scope.names ([] : List (Str × Addr)) fun x cs => (do
      let y ← (match x with | (name, kind) => if kind == NameKind.free then (do let a ← cellOf env name; pure (ForInStep.yield ((name, a) :: cs))) else pure (ForInStep.yield cs) : Sem (ForInStep (List (Str × Addr)))); pure y)) := by
    simp
  first
    | exact (congrArg (fun t => t >>= fun r => pure r) e)
    | (rw [e]; rfl)
    | (simp only []; rw [e]; rfl)
theorem clOf_acc (cells : List (Str × Addr)) : ∀ (names : List (Str × NameKind)) (acc : List (Str × Addr)) (x : Str), (acc.lookup x).isSome = true → (∀ a, acc.lookup x = some a → cells.lookup x = some a) → (clOf cells names acc).lookup x = cells.lookup x
  | [], acc, x, h, h' => by
    obtain ⟨a, ha⟩ := Option.isSome_iff_exists.mp h
    unfold clOf; rw [ha, h' a ha]
  | (n, k) :: r, acc, x, h, h' => by
    unfold clOf
    split
    · split
      · rename_i a ha
        refine clOf_acc cells r _ x ?_ ?_
        · rw [List.lookup_cons]; split <;> first | rfl | exact h
        · intro b hb
          rw [List.lookup_cons] at hb
          split at hb
          · rename_i hx
            cases hb
            rw [beq_iff_eq.mp hx]; exact ha
          · exact h' b hb
      · exact clOf_acc cells r acc x h h'
    · exact clOf_acc cells r acc x h h'
theorem clOf_mem (cells : List (Str × Addr)) : ∀ (names : List (Str × NameKind)) (acc : List (Str × Addr)) (x : Str), (x, NameKind.free) ∈ names → (cells.lookup x).isSome = true → (∀ a, acc.lookup x = some a → cells.lookup x = some a) → (clOf cells names acc).lookup x = cells.lookup x
  | [], _, _, h, _, _ => nomatch h
  | (n, k) :: r, acc, x, h, hc, h' => by
    obtain ⟨a, ha⟩ := Option.isSome_iff_exists.mp hc
    unfold clOf
    rcases List.mem_cons.mp h with e | h
    · cases e
      rw [if_pos (by rfl), ha]
      show (clOf cells r ((n, a) :: acc)).lookup n = some a
      rw [← ha]
      refine clOf_acc cells r _ n ?_ ?_
      · rw [List.lookup_cons, beq_self_eq_true]; rfl
      · intro b hb
        rw [List.lookup_cons, beq_self_eq_true] at hb
        cases hb; exact ha
    · split
      · split
        · rename_i b hb
          refine clOf_mem cells r _ x h hc fun d hd => ?_
          rw [List.lookup_cons] at hd
          split at hd
          · rename_i hx
            cases hd
            rw [beq_iff_eq.mp hx]; exact hb
          · exact h' d hd
        · exact clOf_mem cells r acc x h hc h'
      · exact clOf_mem cells r acc x h hc h'
theorem lookup_mem {α : Type} : ∀ {l : List (Str × α)} {x : Str} {a : α}, l.lookup x = some a → (x, a) ∈ l := fun h => mem_of_lookup h
theorem relabelN_eq {env : Env} (he : EnvOk env sc) (scope : Scope) : (relabel scope env).names = relabelN sc scope.names := by
  unfold relabel relabelN
  have : ∀ n : Str, (env.scope.kind == .function && env.kindOf n == some .cell) = (sc.lookup n == some .cell) := fun n => by rw [he.kind, he.kindOf]; rfl
  refine List.map_congr_left fun p _ => ?_
  obtain ⟨n, k⟩ := p
  have e := this n
  show (if (k == NameKind.free && env.scope.kind == .function && env.kindOf n == some .cell) = true then (n, NameKind.cell) else (n, k)) = _
  rw [Bool.and_assoc, e]
theorem relabelN_lookup (sc : List (Str × NameKind)) : ∀ (names : List (Str × NameKind)) (x : Str), (relabelN sc names).lookup x = (names.lookup x).map fun k => if (k == .free && sc.lookup x == some .cell) = true then NameKind.cell else k
  | [], x => rfl
  | (n, k) :: r, x => by
    have ih := relabelN_lookup sc r x
    show List.lookup x ((if (k == NameKind.free && sc.lookup n == some .cell) = true then (n, NameKind.cell) else (n, k)) :: relabelN sc r) = _
    cases hx : x == n with
    | true =>
      have e : x = n := beq_iff_eq.mp hx
      subst e
      split <;> simp_all [List.lookup_cons]
    | false => split <;> simp only [List.lookup_cons, hx] <;> exact ih
structure CompOk (sc : List (Str × NameKind)) (N : List Str) (scope : Scope) (x : Str) (j : Nat) (vis : List Nat) : Prop where
  kind : scope.kind = .function
  nocell : (scope.names.all fun y => y.2 != .cell) = true
  locals : (scope.names.all fun y => y.2 != .local || scope.names.lookup y.1 == some .local) = true
  frees : (scope.names.all fun y => y.2 != .free || (scope.names.lookup y.1 == some .free && (sc.lookup y.1 == some .cell || sc.lookup y.1 == some .free))) = true
  hx : scope.names.lookup x = some .local
  hj : N[j]? = some x
  hvis : (vis.all fun i => match N[i]? with | some y => scope.names.lookup y == some .free | none => false) = true
theorem inner_get (vis : List Nat) (j : Nat) (d : DV) (ρ : List DV) (i : Nat) : (inner vis j d ρ)[i]? = (ρ[i]?).map fun e => if i = j then d else if vis.contains i then e else .undef := by
  unfold inner; rw [List.getElem?_mapIdx]
theorem CompOk.free {scope : Scope} {x : Str} {j : Nat} {vis : List Nat} (ok : CompOk sc N scope x j vis) {n : Str} (h : (n, NameKind.free) ∈ scope.names) : scope.names.lookup n = some .free ∧ (sc.lookup n = some .cell ∨ sc.lookup n = some .free) := by
  have := List.all_eq_true.mp ok.frees _ h
  simpa using this
theorem CompOk.env {scope : Scope} {x : Str} {j : Nat} {vis : List Nat} (ok : CompOk sc N scope x j vis) {env : Env} (he : EnvOk env sc) (C : Addr) : EnvOk (compEnvC scope (clOf env.cells scope.names []) C env) (relabelN sc scope.names) := by
  refine ⟨ok.kind, he.globals, relabelN_eq he scope, he.builtins, fun n hn => ?_⟩
  have hf : scope.names.lookup n = some .free := by
    rw [relabelN_lookup] at hn
    cases q : scope.names.lookup n with
    | none => rw [q] at hn; simp at hn
    | some k =>
      cases k with
      | free => rfl
      | cell =>
        have := List.all_eq_true.mp ok.nocell _ (lookup_mem q)
        simp at this
      | _ => rw [q] at hn; simp at hn
  have hc := he.cells n (ok.free (lookup_mem hf)).2
  show ((clOf env.cells scope.names []).lookup n).isSome = true
  rw [clOf_mem env.cells scope.names [] n (lookup_mem hf) hc (fun a h => by cases h)]
  exact hc
theorem CompOk.nm {scope : Scope} {x : Str} {j : Nat} {vis : List Nat} (ok : CompOk sc N scope x j vis) {env : Env} (he : EnvOk env sc) {C : Addr} {h : Heap} {X : Addr → Prop} {aA : Option Addr} {ρ : List DV} {m cm m' : Str → Option Value} {v : Value} {d : DV}
    (hn : Nm env N h X aA ρ m cm) (hC : h.Ns C m') (hx : m' x = some v) (hr : Rel h X aA v d) : Nm (compEnvC scope (clOf env.cells scope.names []) C env) N h X aA (inner vis j d ρ) m' cm := by
  have hk : ∀ y, Env.kindOf (compEnvC scope (clOf env.cells scope.names []) C env) y = (relabelN sc scope.names).lookup y := (ok.env he C).kindOf
  have hl : ∀ y, scope.names.lookup y = some .free → (clOf env.cells scope.names []).lookup y = env.cells.lookup y := fun y hy =>
    clOf_mem env.cells scope.names [] y (lookup_mem hy) (he.cells y (ok.free (lookup_mem hy)).2) (fun a h => by cases h)
  refine ⟨hC, fun y a ha => ?_, fun i e hi hne => ?_⟩
  ·
    have : ∀ (names : List (Str × NameKind)) (acc : List (Str × Addr)), (∀ y a, acc.lookup y = some a → env.cells.lookup y = some a) → ∀ y a, (clOf env.cells names acc).lookup y = some a → env.cells.lookup y = some a := by
      intro names
      induction names with
      | nil => intro acc h y a e; exact h y a e
      | cons p r ih =>
        intro acc h y a e
        obtain ⟨n, k⟩ := p
        unfold clOf at e
        split at e
        · split at e
          · rename_i b hb
            refine ih _ (fun z q hz => ?_) y a e
            rw [List.lookup_cons] at hz
            split at hz
            · rename_i hzn; cases hz; rw [beq_iff_eq.mp hzn]; exact hb
            · exact h z q hz
          · exact ih _ h y a e
        · exact ih _ h y a e
    exact hn.cell y a (this scope.names [] (fun y a e => by cases e) y a ha)
  · rw [inner_get] at hi
    obtain ⟨e₀, h₀, rfl⟩ := omap hi
    by_cases hij : i = j
    · subst hij
      rw [if_pos rfl] at hne ⊢
      refine ⟨x, v, ok.hj, ?_, hr⟩
      unfold valOf
      rw [hk, relabelN_lookup, ok.hx]
      exact hx
    · rw [if_neg hij] at hne ⊢
      by_cases hv : vis.contains i = true
      · rw [if_pos hv] at hne ⊢
        obtain ⟨y, u, hy, hu, r⟩ := hn.val i e₀ h₀ hne
        refine ⟨y, u, hy, ?_, r⟩
        have hf := List.all_eq_true.mp ok.hvis i (by simpa using hv)
        rw [hy] at hf
        have hf : scope.names.lookup y = some .free := by simpa using hf
        have ho := (ok.free (lookup_mem hf)).2
        have hcm : (env.cells.lookup y).isSome = true ∧ cm y = some u := by
          have hs := he.cells y ho
          unfold valOf at hu
          rw [he.kindOf] at hu
          rcases ho with ho | ho <;> rw [ho] at hu <;> simp only [hs, if_true] at hu <;> exact ⟨hs, hu⟩
        unfold valOf
        rw [hk, relabelN_lookup, hf]
        show (match (some (if (NameKind.free == .free && sc.lookup y == some .cell) = true then NameKind.cell else .free) : Option NameKind) with
          | some .local => m' y
          | some .cell => if ((clOf env.cells scope.names []).lookup y).isSome then cm y else none
          | some .free => if ((clOf env.cells scope.names []).lookup y).isSome then cm y else none
          | _ => none) = some u
        rw [hl y hf, hcm.1]
        split <;> rename_i q <;> first | exact hcm.2 | (exfalso; split at q <;> cases q) | (exfalso; rename_i q2 q3; split at q3 <;> simp_all)
      · rw [if_neg hv] at hne
        exact absurd rfl hne
end
end Mine
namespace Mine
section
variable {prog : Program} {w : World} {c : Cfg} {sc : List (Str × NameKind)} {N : List Str}
noncomputable def SI (prog : Program) (w : World) (c : Cfg) (sc : List (Str × NameKind)) (N : List Str) (ifs : List Expr) (f : List DV → Option Bool) : Prop :=
  ∀ (A : Around) (env : Env) (s : Shared) (X : Addr → Prop) (aA : Option Addr) (ρ : List DV) (m cm : Str → Option Value) (b : Bool), EnvOk env sc → Rm A → Glo c s.heap → XB s.heap X → Nm env N s.heap X aA ρ m cm → f ρ = some b →
    YieldsB prog w A (forIn ifs true fun e r => if r = true then do let ok ← isTrue e env (eval e env); pure (ForInStep.yield ok) else pure (ForInStep.yield r)) s b
theorem si_nil : SI prog w c sc N [] mAndT := by
  intro A env s X aA ρ m cm b he hA hg hx hn hb Q E h
  cases hb
  exact wpAny_tests_nil (h _ _ fun _ _ e => e)
theorem si_one {e : Expr} {f : List DV → Option Bool} (hf : ST prog w c sc N e f) : SI prog w c sc N [e] f := by
  intro A env s X aA ρ m cm b he hA hg hx hn hb Q E h
  exact wpAny_tests_one (hf A env s X aA ρ m cm b he hA hg hx hn hb _ _ fun h₁ tk₁ k₁ => h h₁ tk₁ k₁)
noncomputable def flatRel (y : Value) (e : DV) : Prop := match e with
  | .int i => ∃ t, y = .int i t
  | .str x => (∃ t, y = .str x t) ∧ x.length ≤ sizeB
  | _ => False
theorem flatRel_of {h : Heap} {X : Addr → Prop} {aA : Option Addr} {y : Value} {e : DV} (r : Rel h X aA y e) (hf : flat e = true) : flatRel y e := by
  cases r with
  | int i t => exact ⟨t, rfl⟩
  | str x t hl => exact ⟨⟨t, rfl⟩, hl⟩
  | _ => cases hf
theorem flatRel.rel {h : Heap} {X : Addr → Prop} {aA : Option Addr} {y : Value} {e : DV} (r : flatRel y e) : Rel h X aA y e := by
  cases e with
  | int i => obtain ⟨t, rfl⟩ := r; exact .int i t
  | str x => obtain ⟨⟨t, rfl⟩, hl⟩ := r; exact .str x t hl
  | _ => cases r
theorem compGo_at {fc : DV → Option Bool} {fe : DV → Option DV} : ∀ {ds es : List DV}, compGo fc fe ds = some es → ∀ d ∈ ds, flat d = true ∧ ∃ b, fc d = some b ∧ (b = true → ∃ e, fe d = some e ∧ flat e = true)
  | [], _, _, d, hd => nomatch hd
  | d₀ :: r, es, h, d, hd => by
    unfold compGo at h
    split at h
    · rename_i hf
      obtain ⟨b, hb, h⟩ := obind h
      cases b with
      | false =>
        simp only [Bool.false_eq_true, if_false] at h
        rcases List.mem_cons.mp hd with rfl | hd
        · exact ⟨hf, false, hb, fun e => by cases e⟩
        · exact compGo_at h d hd
      | true =>
        simp only [if_true] at h
        obtain ⟨e, he, h⟩ := obind h
        split at h
        · rename_i hfe
          obtain ⟨es', hes, rfl⟩ := omap h
          rcases List.mem_cons.mp hd with rfl | hd
          · exact ⟨hf, true, hb, fun _ => ⟨e, he, hfe⟩⟩
          · exact compGo_at hes d hd
        · cases h
    · cases h
theorem compGo_rel {fc : DV → Option Bool} {fe : DV → Option DV} {h h' : Heap} {X X' : Addr → Prop} {aA aA' : Option Addr} (p : Value → Bool) (F : Value → Value → Prop) (hp : ∀ v d, Rel h X aA v d → flat d = true → p v = (fc d == some true))
    (hF : ∀ v d y, Rel h X aA v d → flat d = true → F v y → ∃ e, fe d = some e ∧ flatRel y e) : ∀ {vs : List Value} {ds es : List DV} {ys : List Value}, RelL h X aA vs ds → compGo fc fe ds = some es → Paired F (vs.filter p) ys → RelL h' X' aA' ys es
  | _, _, _, _, .nil, hc, hP => by
    cases hc
    cases hP
    exact .nil
  | _, _, es, ys, @RelL.cons _ _ _ v d vs ds a r, hc, hP => by
    unfold compGo at hc
    split at hc
    · rename_i hf
      obtain ⟨b, hb, hc⟩ := obind hc
      have hpv := hp v d a hf
      rw [hb] at hpv
      cases b with
      | false =>
        simp only [Bool.false_eq_true, if_false] at hc
        rw [List.filter_cons, if_neg (by rw [hpv]; decide)] at hP
        exact compGo_rel p F hp hF r hc hP
      | true =>
        simp only [if_true] at hc
        obtain ⟨e, he, hc⟩ := obind hc
        split at hc
        · obtain ⟨es', hes, rfl⟩ := omap hc
          rw [List.filter_cons, if_pos (by rw [hpv]; rfl)] at hP
          cases hP with
          | cons hy hP =>
            obtain ⟨e', he', q⟩ := hF v d _ a hf hy
            rw [he] at he'; cases he'
            exact .cons q.rel (compGo_rel p F hp hF r hes hP)
        · cases hc
    · cases hc
theorem compGo_length {fc : DV → Option Bool} {fe : DV → Option DV} : ∀ {ds es : List DV}, compGo fc fe ds = some es → es.length ≤ ds.length
  | [], _, h => by cases h; exact Nat.le_refl _
  | d :: r, es, h => by
    unfold compGo at h
    split at h
    · obtain ⟨b, hb, h⟩ := obind h
      cases b with
      | false => simp only [Bool.false_eq_true, if_false] at h; exact Nat.le_trans (compGo_length h) (Nat.le_succ _)
      | true =>
        simp only [if_true] at h
        obtain ⟨e, he, h⟩ := obind h
        split at h
        · obtain ⟨es', hes, rfl⟩ := omap h
          exact Nat.succ_le_succ (compGo_length hes)
        · cases h
    · cases h
theorem relL_of_get {h : Heap} {X : Addr → Prop} {aA : Option Addr} : ∀ {vs : List Value} {ds : List DV}, vs.length = ds.length → (∀ (j : Nat) v, vs[j]? = some v → ∃ d, ds[j]? = some d ∧ Rel h X aA v d) → RelL h X aA vs ds
  | [], [], _, _ => .nil
  | [], _ :: _, h, _ => by simp at h
  | _ :: _, [], h, _ => by simp at h
  | v :: vs, d :: ds, hl, hh => by
    obtain ⟨d', e, r⟩ := hh 0 v rfl
    have : d = d' := by simpa using e
    subst this
    exact .cons r (relL_of_get (by simpa using hl) fun j u hu => by simpa using hh (j + 1) u (by simpa using hu))
theorem comp_quiet {A : Around} {env : Env} {scope : Scope} {x : Str} {j : Nat} {vis : List Nat} {ifs : List Expr} {elt : Expr} {fc : List DV → Option Bool} {fe : List DV → Option DV} {s s₂ : Shared} {X : Addr → Prop} {aA : Option Addr} {ρ : List DV} {m cm : Str → Option Value} {ds es : List DV} {P : Nat → Value → Prop} {I : Addr}
    (ok : CompOk sc N scope x j vis) (hc : SI prog w c (relabelN sc scope.names) N ifs fc) (hf : SE prog w c (relabelN sc scope.names) N elt fe) (he : EnvOk env sc) (hA : Rm A) (hg : Glo c s.heap) (hx : XB s.heap X) (hn : Nm env N s.heap X aA ρ m cm) (hI : I = s.heap.objs.size)
    (hk : ∀ b o, s.heap.get? b = some o → s₂.heap.get? b = some o) (hP : ∀ i v, P i v → ∃ d, ds[i]? = some d ∧ Rel s.heap X aA v d) (hgo : compGo (fun d => fc (inner vis j d ρ)) (fun d => fe (inner vis j d ρ)) ds = some es) :
    QuietOnC prog w A env scope (clOf env.cells scope.names []) x ifs elt [I] P (fun v => fc (inner vis j (dOf v) ρ) == some true) (fun v y => ∃ e, fe (inner vis j (dOf v) ρ) = some e ∧ flatRel y e) s₂ := by
  have old : ∀ {s₃ : Shared}, (∀ b o, b ∉ [I] → s₂.heap.get? b = some o → s₃.heap.get? b = some o) → ∀ b o, s.heap.get? b = some o → s₃.heap.get? b = some o := fun k b o e =>
    k b o (fun hb => by rw [List.mem_singleton.mp hb, hI] at e; exact Nat.lt_irrefl _ (Heap.lt_size e)) (hk b o e)
  refine ⟨?_, ?_⟩
  · intro C i v s₃ m₃ E' _ hPi hC hxv hks _
    obtain ⟨d, hd, r⟩ := hP i v hPi
    obtain ⟨hfl, b, hb, _⟩ := compGo_at hgo d (List.mem_of_getElem? hd)
    have e := dOf_rel r hfl
    have k := old hks
    refine hc A (compEnvC scope (clOf env.cells scope.names []) C env) s₃ X aA (inner vis j d ρ) m₃ cm b (ok.env he C) hA (hg.keeps k) (hx.keeps k) (ok.nm he (hn.keeps k) hC hxv (r.keeps k)) hb _ _ fun h₁ tk₁ k₁ => ?_
    exact ⟨by rw [e, hb]; cases b <;> rfl, h₁, tk₁, rfl, k₁⟩
  · intro C i v s₃ m₃ E' _ hPi hpv hC hxv hks _
    obtain ⟨d, hd, r⟩ := hP i v hPi
    obtain ⟨hfl, b, hb, hbe⟩ := compGo_at hgo d (List.mem_of_getElem? hd)
    have e := dOf_rel r hfl
    rw [e, hb] at hpv
    have hbt : b = true := by cases b <;> first | rfl | (exfalso; revert hpv; decide)
    obtain ⟨y, hy, hfy⟩ := hbe hbt
    have k := old hks
    refine hf A (compEnvC scope (clOf env.cells scope.names []) C env) s₃ X aA (inner vis j d ρ) m₃ cm y (ok.env he C) hA (hg.keeps k) (hx.keeps k) (ok.nm he (hn.keeps k) hC hxv (r.keeps k)) hy _ _ fun u h₁ tk₁ r₁ k₁ => ?_
    exact ⟨⟨y, by rw [e]; exact hy, flatRel_of r₁ hfy⟩, h₁, tk₁, rfl, k₁⟩
theorem se_comp {elt iter : Expr} {x : Str} {px pos : Pos} {ifs : List Expr} {scope : Scope} {j : Nat} {vis : List Nat} {fi fe : List DV → Option DV} {fc : List DV → Option Bool} (ok : CompOk sc N scope x j vis) (hi : SE prog w c sc N iter fi)
    (hc : SI prog w c (relabelN sc scope.names) N ifs fc) (hf : SE prog w c (relabelN sc scope.names) N elt fe) (hs : ∀ env x, foldedSetIterable iter env x = pure x := by intro _ _; rfl) : SE prog w c sc N (.ListComp elt [⟨.Name x px, iter, ifs, 0⟩] scope pos) (mComp j vis fi fc fe) := by
  intro A env s X aA ρ m cm d he hA hg hx hn hd Q E h
  obtain ⟨a, ha, hd⟩ := obind hd
  obtain ⟨ds, hds, hd⟩ := obind hd
  split at hd
  · obtain ⟨es, hes, rfl⟩ := omap hd
    have hcl : closureFor scope env = pure (clOf env.cells scope.names []) := closure_is fun n hn => he.cells n (ok.free hn).2
    refine wpAny_ListComp_free (fun v => fc (inner vis j (dOf v) ρ) == some true) (fun v y => ∃ e, fe (inner vis j (dOf v) ρ) = some e ∧ flatRel y e) hcl (fun y hy => by have := List.all_eq_true.mp ok.nocell y hy; simpa using this) ok.kind (fun y hy hl => by have := List.all_eq_true.mp ok.locals y hy; rw [hl] at this; simpa using this) ok.hx
      (hi A env s X aA ρ m cm a he hA hg hx hn ha _ _ fun v h₁ tk₁ r₁ k₁ => ?_) (hs env)
    refine iter_ok hA.handled r₁ hds fun h₂ fp P St hsz k₂ W hst hfp hP hle => ?_
    refine ⟨_, fp, _, ds.length, P, St, rfl, W, lt_sizeLine hle, hst, fun b hb => ?_, comp_quiet (I := h₁.objs.size) ok hc hf he hA (hg.keeps k₁) (hx.keeps k₁) (hn.keeps k₁) rfl k₂ hP hes, fun D h' tk ys vs hD hl hpl hlen hvs hpr hkk => ?_⟩
    · rcases hfp b hb with rfl | ⟨_, o, e⟩
      · show h₁.objs.size < h₂.objs.size
        rw [hsz]; exact Nat.lt_succ_self _
      · exact Heap.lt_size (k₂ b o e)
    · have hr : RelL h₁ X aA vs ds := relL_of_get (by rw [hlen]) fun i v hv => hP i v (hvs i v hv)
      have kf : ∀ b o, s.heap.get? b = some o → h'.get? b = some o := fun b o e => hkk b o (fun hb => by
        have e' := k₁ b o e
        rw [List.mem_singleton.mp hb] at e'
        exact Nat.lt_irrefl _ (Heap.lt_size e')) (k₂ b o (k₁ b o e))
      have q := compGo_rel (h' := h') (X' := X) (aA' := aA) _ _ (fun v d r hfl => by rw [dOf_rel r hfl]) (fun v d y r hfl ⟨e, h1, h2⟩ => ⟨e, by rw [← dOf_rel r hfl]; exact h1, h2⟩) hr hes hpr
      have nD : ¬ X D := fun e => by
        obtain ⟨o, e⟩ := hx D e
        have := k₂ D o (k₁ D o e)
        rw [hD] at this; cases this
      have hl1 := q.length
      have hl2 := compGo_length hes
      refine h _ _ _ (.lst (vs := ys.toList) nD (by simpa using hpl) (by lia) q) kf
  · cases hd
end
end Mine
end

section
open PySem PySem.Calls PyProof.Rows
set_option maxRecDepth 100000
namespace Mine
noncomputable def AirIs (c : Cfg) (h : Heap) (X : Addr → Prop) (a : Addr) (its : List DV) : Prop :=
  ∃ (dx : Addr) (vs : List Value) (n : Nat) (hsh : Int) (tk t : Tok) (ep : Nat), c.h₁.get? a = none ∧ h.get? a = some { cls := .ref c.C, dict := some dx, data := .seq vs.toArray n } ∧ ¬ X dx ∧ dx ≠ a ∧
    h.get? dx = some { cls := .type "dict", data := .dict #[⟨hsh, .str "_initial_size" tk, .int 2 t⟩] ep } ∧ vs.length ≤ 4096 ∧ RelL h X (some a) vs its
noncomputable abbrev Air := Option (List DV)
noncomputable def AirOK (c : Cfg) (h : Heap) (X : Addr → Prop) (aA : Option Addr) (α : Air) : Prop := match aA, α with
  | none, none => True
  | some a, some its => X a ∧ AirIs c h X a its
  | _, _ => False
noncomputable def MutP (c : Cfg) (aA : Option Addr) (b : Addr) : Prop := b = c.P₁ ∨ b = c.P₂ ∨ aA = some b
noncomputable def Tab (c₀ P : Addr) (h : Heap) : Prop := ∃ ps, h.IsCode c₀ P ps ∧ h.TableAt c₀ P ps
structure Inv (c : Cfg) (s : Shared) : Prop where
  glo : Glo c s.heap
  old : OldK c.h₁ s.heap
  os : s.os = c.os
  gens : AllBare s.gens
  t₁ : Tab c.c₁ c.P₁ s.heap
  t₂ : Tab c.c₂ c.P₂ s.heap
structure GStep (c : Cfg) (aA : Option Addr) (X : Addr → Prop) (h : Heap) (aA' : Option Addr) (X' : Addr → Prop) (h' : Heap) : Prop where
  keep : ∀ b o, h.get? b = some o → ¬ MutP c aA b → h'.get? b = some o
  there : ∀ b o, h.get? b = some o → ∃ o', h'.get? b = some o'
  sub : ∀ b, X b → X' b
  new : ∀ b o, h.get? b = some o → X' b → X b
  air : aA' = aA ∨ (aA = none ∧ ∃ a, aA' = some a ∧ h.get? a = none)
section
variable {c : Cfg} {aA aA' aA'' : Option Addr} {X X' X'' : Addr → Prop} {h h' h'' : Heap}
theorem GStep.refl (c : Cfg) (aA : Option Addr) (X : Addr → Prop) (h : Heap) : GStep c aA X h aA X h := ⟨fun _ _ e _ => e, fun _ o e => ⟨o, e⟩, fun _ e => e, fun _ _ _ e => e, .inl rfl⟩
theorem GStep.pure (hk : ∀ b o, h.get? b = some o → h'.get? b = some o) : GStep c aA X h aA X h' := ⟨fun b o e _ => hk b o e, fun b o e => ⟨o, hk b o e⟩, fun _ e => e, fun _ _ _ e => e, .inl rfl⟩
theorem MutP.still {b : Addr} {o : Obj} (hb : h.get? b = some o) (ha : aA' = aA ∨ (aA = none ∧ ∃ a, aA' = some a ∧ h.get? a = none)) (hm : ¬ MutP c aA b) : ¬ MutP c aA' b := by
  rintro (e | e | e)
  · exact hm (.inl e)
  · exact hm (.inr (.inl e))
  · rcases ha with rfl | ⟨_, a, rfl, ha⟩
    · exact hm (.inr (.inr e))
    · cases e; rw [hb] at ha; cases ha
theorem GStep.trans (s : GStep c aA X h aA' X' h') (t : GStep c aA' X' h' aA'' X'' h'') : GStep c aA X h aA'' X'' h'' := by
  refine ⟨fun b o e hm => ?_, fun b o e => ?_, fun b e => t.sub b (s.sub b e), fun b o e hb => ?_, ?_⟩
  · exact t.keep b o (s.keep b o e hm) (MutP.still e s.air hm)
  · obtain ⟨o₁, e₁⟩ := s.there b o e
    exact t.there b o₁ e₁
  · obtain ⟨o₁, e₁⟩ := s.there b o e
    exact s.new b o e (t.new b o₁ e₁ hb)
  · rcases t.air with rfl | ⟨h0, a, rfl, ha⟩
    · exact s.air
    · have h1 : aA = none := by
        rcases s.air with e | ⟨e, _⟩
        · rw [← e]; exact h0
        · exact e
      refine .inr ⟨h1, a, rfl, ?_⟩
      cases q : h.get? a with
      | none => rfl
      | some o => obtain ⟨o', e'⟩ := s.there a o q; rw [ha] at e'; cases e'
theorem GStep.ha (s : GStep c aA X h aA' X' h') : ∀ a, aA = some a → aA' = some a := fun a e => by
  rcases s.air with q | ⟨q, _⟩
  · rw [q]; exact e
  · rw [q] at e; cases e
theorem GStep.data (s : GStep c aA X h aA' X' h') (hm : ∀ b, MutP c aA b → X b) : ∀ b o, h.get? b = some o → ¬ X b → h'.get? b = some o := fun b o e nx => s.keep b o e fun q => nx (hm b q)
theorem GStep.rel (s : GStep c aA X h aA' X' h') (hm : ∀ b, MutP c aA b → X b) {v : Value} {d : DV} (r : Rel h X aA v d) : Rel h' X' aA' v d :=
  r.mono (s.data hm) (fun b o e nx x => nx (s.new b o e x)) s.ha
theorem GStep.relL (s : GStep c aA X h aA' X' h') (hm : ∀ b, MutP c aA b → X b) {vs : List Value} {ds : List DV} (r : RelL h X aA vs ds) : RelL h' X' aA' vs ds :=
  r.mono (s.data hm) (fun b o e nx x => nx (s.new b o e x)) s.ha
end
theorem Tab.keeps {c₀ P : Addr} {h h' : Heap} (t : Tab c₀ P h) (hk : ∀ b o, h.get? b = some o → h'.get? b = some o) : Tab c₀ P h' := let ⟨ps, a, b⟩ := t; ⟨ps, a.keeps hk, b.keeps hk⟩
theorem Inv.keeps {c : Cfg} {s : Shared} (i : Inv c s) {h' : Heap} {tk : Nat} (hk : ∀ b o, s.heap.get? b = some o → h'.get? b = some o) : Inv c { s with heap := h', toks := tk } :=
  ⟨i.glo.keeps hk, i.old.step_keeps hk, i.os, i.gens, i.t₁.keeps hk, i.t₂.keeps hk⟩
theorem oldK_at {h₁ h h' : Heap} {a : Addr} (K : OldK h₁ h) (ha : h₁.get? a = none) (hs : Heap.SameBut a h h') : OldK h₁ h' := by
  have ne : ∀ b o, h₁.get? b = some o → b ≠ a := fun b o e q => by rw [q, ha] at e; cases e
  refine ⟨fun b o e => ?_, fun b o e => let ⟨o', ho'⟩ := K.there b o e; ⟨o', (hs.2 b (ne b o e)).trans ho'⟩⟩
  rcases K.old b o e with x | ⟨t, hc, vs, more, hv, x⟩ | ⟨rfl, hc, ⟨o', es, n, ho', r⟩, z⟩
  · exact .inl ((hs.2 b (ne b o e)).trans x)
  · exact .inr (.inl ⟨t, hc, vs, more, hv, (hs.2 b (ne b o e)).trans x⟩)
  · exact .inr (.inr ⟨rfl, hc, ⟨o', es, n, (hs.2 _ (ne _ o e)).trans ho', r⟩, fun key => by rw [OldK.staticOf_congr (hs.2 _ (ne _ o e)) key]; exact z key⟩)
inductive BmOk (c : Cfg) : Prop
  | mk (bm : Addr) (ob : Obj) (h1 : c.mg "__builtins__" = some (.ref bm)) (h2 : bm ≠ builtinsNs) (h3 : c.h₁.get? bm = some ob) (h4 : ob.cls = .type "module") (h5 : ob.dict = some builtinsNs) (h6 : ob.data = .plain) (h7 : bm ≠ c.P₁) (h8 : bm ≠ c.P₂) : BmOk c
structure CfgOK (c : Cfg) : Prop where
  g : c.h₁.Ns mainGlobals c.mg
  b : c.h₁.Ns builtinsNs c.mb
  lim : c.h₁.NoLimit
  ng : mainGlobals ≠ c.P₁ ∧ mainGlobals ≠ c.P₂ ∧ builtinsNs ≠ c.P₁ ∧ builtinsNs ≠ c.P₂ ∧ cStatics ≠ c.P₁ ∧ cStatics ≠ c.P₂
  c₁ : ∃ o, c.h₁.get? c.c₁ = some o
  c₂ : ∃ o, c.h₁.get? c.c₂ = some o
  p₁ : ∃ o, c.h₁.get? c.P₁ = some o
  p₂ : ∃ o, c.h₁.get? c.P₂ = some o
  ne : c.c₁ ≠ c.P₁ ∧ c.c₁ ≠ c.P₂ ∧ c.c₂ ≠ c.P₁ ∧ c.c₂ ≠ c.P₂ ∧ c.P₁ ≠ c.P₂
  ht₁ : ∃ ps, c.h₁.TableAt c.c₁ c.P₁ ps
  ht₂ : ∃ ps, c.h₁.TableAt c.c₂ c.P₂ ps
  bm : BmOk c
theorem ns_at {h h' : Heap} {a : Addr} {m : Str → Option Value} (n : h.Ns a m) (e : h'.get? a = h.get? a) : h'.Ns a m := n.at' fun o q => e.trans q
theorem Glo.same {c : Cfg} (ok : CfgOK c) {h h' : Heap} {a : Addr} (g : Glo c h) (ha : c.h₁.get? a = none) (hs : Heap.SameBut a h h') : Glo c h' := by
  have ne : ∀ b o, c.h₁.get? b = some o → b ≠ a := fun b o e q => by rw [q, ha] at e; cases e
  have nn : ∀ {b : Addr} {m : Str → Option Value}, c.h₁.Ns b m → b ≠ a := fun n => let ⟨o, _, _, e, _⟩ := n; ne _ o e
  refine ⟨ns_at g.g (hs.2 _ (nn ok.g)), ns_at g.b (hs.2 _ (nn ok.b)), ?_, fun b o e n₁ n₂ => (hs.2 b (ne b o e)).trans (g.keep b o e n₁ n₂)⟩
  obtain ⟨m, hn, hm⟩ := g.lim
  obtain ⟨m', hn', _⟩ := ok.lim
  exact ⟨m, ns_at hn (hs.2 _ (nn hn')), hm⟩
theorem Tab.same {c₀ P a : Addr} {h h' : Heap} (t : Tab c₀ P h) (hs : Heap.SameBut a h h') (h1 : c₀ ≠ a) (h2 : P ≠ a) : Tab c₀ P h' := by
  obtain ⟨ps, x, y⟩ := t
  obtain ⟨o, vs, file, tf, flags, tg, inF, text, tt, op, r1, r2, r3, r4, r5, r6, r7, r8, r9, r10, r11⟩ := x
  obtain ⟨⟨oc, vc, q1, q2⟩, q3⟩ := y
  exact ⟨ps, ⟨o, vs, file, tf, flags, tg, inF, text, tt, op, (hs.2 _ h1).trans r1, r2, r3, r4, r5, r6, r7, (hs.2 _ h2).trans r8, r9, r10, r11⟩, ⟨oc, vc, (hs.2 _ h1).trans q1, q2⟩, (hs.2 _ h2).trans q3⟩
theorem Inv.same {c : Cfg} (ok : CfgOK c) {s : Shared} (i : Inv c s) {h' : Heap} {tk : Nat} {a : Addr} (ha : c.h₁.get? a = none) (hs : Heap.SameBut a s.heap h') : Inv c { s with heap := h', toks := tk } := by
  have ne : ∀ b, (∃ o, c.h₁.get? b = some o) → b ≠ a := fun b ⟨o, e⟩ q => by rw [q, ha] at e; cases e
  exact ⟨i.glo.same ok ha hs, oldK_at i.old ha hs, i.os, i.gens, i.t₁.same hs (ne _ ok.c₁) (ne _ ok.p₁), i.t₂.same hs (ne _ ok.c₂) (ne _ ok.p₂)⟩
inductive OwnK where
  | lst (ds : List DV)
  | it (ds : List DV)
structure St where
  ρ : List DV
  own : Option (Nat × OwnK)
  air : Air
inductive Fl where
  | next | brk | ret (d : DV)
noncomputable def Frm (env : Env) (o : Option Addr) (b : Addr) : Prop := b = env.locals ∨ (∃ n, env.cells.lookup n = some b) ∨ o = some b
structure FrameOK (c : Cfg) (env : Env) (o aA : Option Addr) (X : Addr → Prop) : Prop where
  mu : ∀ b, Frm env o b → ¬ MutP c aA b ∧ X b ∧ c.h₁.get? b = none
  mx : ∀ b, MutP c aA b → X b
  apart : ∀ x y b, env.cells.lookup x = some b → env.cells.lookup y = some b → x = y
  offL : ∀ n b, env.cells.lookup n = some b → env.locals ≠ b
  offO : ∀ b, o = some b → b ≠ env.locals ∧ ∀ n, env.cells.lookup n ≠ some b
noncomputable def OwnOK (env : Env) (N : List Str) (h : Heap) (X : Addr → Prop) (aA : Option Addr) (m cm : Str → Option Value) (own : Option (Nat × OwnK)) (o : Option Addr) : Prop := match own, o with
  | none, none => True
  | some (i, .lst ds), some a => ∃ (x : Str) (vs : List Value), N[i]? = some x ∧ valOf env m cm x = some (.ref a) ∧ h.PlainList a vs.toArray ∧ vs.length ≤ sizeB ∧ RelL h X aA vs ds
  | some (i, .it ds), some I => ∃ (x : Str) (l : Addr) (k : Nat) (vs : List Value), N[i]? = some x ∧ valOf env m cm x = some (.ref I) ∧ h.IsListIter I l k ∧ ¬ X l ∧ h.PlainList l vs.toArray ∧ vs.length ≤ sizeB ∧ RelL h X aA (vs.drop k) ds
  | _, _ => False
inductive NmOwn (env : Env) (N : List Str) (h : Heap) (X : Addr → Prop) (aA : Option Addr) (σ : St) (o : Option Addr) : Prop
  | mk (m cm : Str → Option Value) (n : Nm env N h X aA σ.ρ m cm) (q : OwnOK env N h X aA m cm σ.own o) : NmOwn env N h X aA σ o
structure FI (c : Cfg) (env : Env) (N : List Str) (s : Shared) (σ : St) (o aA : Option Addr) (X : Addr → Prop) : Prop where
  inv : Inv c s
  xb : XB s.heap X
  air : AirOK c s.heap X aA σ.air
  fr : FrameOK c env o aA X
  nm : NmOwn env N s.heap X aA σ o
structure SStep (c : Cfg) (env : Env) (o aA : Option Addr) (X : Addr → Prop) (h : Heap) (o' aA' : Option Addr) (X' : Addr → Prop) (h' : Heap) : Prop where
  keep : ∀ b ob, h.get? b = some ob → ¬ MutP c aA b → ¬ Frm env o b → h'.get? b = some ob
  there : ∀ b ob, h.get? b = some ob → ∃ ob', h'.get? b = some ob'
  sub : ∀ b ob, h.get? b = some ob → X b → X' b ∨ o = some b
  new : ∀ b ob, h.get? b = some ob → X' b → X b
  air : aA' = aA ∨ (aA = none ∧ ∃ a, aA' = some a ∧ h.get? a = none)
  own : ∀ b, o' = some b → o = some b ∨ h.get? b = none
section
variable {c : Cfg} {env : Env} {o o' o'' aA aA' aA'' : Option Addr} {X X' X'' : Addr → Prop} {h h' h'' : Heap}
theorem SStep.refl : SStep c env o aA X h o aA X h := ⟨fun _ _ e _ _ => e, fun _ ob e => ⟨ob, e⟩, fun _ _ _ e => .inl e, fun _ _ _ e => e, .inl rfl, fun _ e => .inl e⟩
theorem SStep.of (s : GStep c aA X h aA' X' h') : SStep c env o aA X h o aA' X' h' := ⟨fun b ob e m _ => s.keep b ob e m, s.there, fun b _ _ e => .inl (s.sub b e), s.new, s.air, fun _ e => .inl e⟩
theorem SStep.trans (s : SStep c env o aA X h o' aA' X' h') (t : SStep c env o' aA' X' h' o'' aA'' X'' h'') : SStep c env o aA X h o'' aA'' X'' h'' := by
  have nope : ∀ {a : Addr}, h'.get? a = none → h.get? a = none := fun {a} ha => by
    cases q : h.get? a with
    | none => rfl
    | some ob => obtain ⟨ob', e'⟩ := s.there a ob q; rw [ha] at e'; cases e'
  refine ⟨fun b ob e hm hf => ?_, fun b ob e => ?_, fun b ob e hx => ?_, fun b ob e hb => ?_, ?_, fun b e => ?_⟩
  · refine t.keep b ob (s.keep b ob e hm hf) (MutP.still e s.air hm) ?_
    rintro (q | q | q)
    · exact hf (.inl q)
    · exact hf (.inr (.inl q))
    · rcases s.own b q with q | q
      · exact hf (.inr (.inr q))
      · rw [e] at q; cases q
  · obtain ⟨ob₁, e₁⟩ := s.there b ob e
    exact t.there b ob₁ e₁
  · rcases s.sub b ob e hx with q | q
    · obtain ⟨ob₁, e₁⟩ := s.there b ob e
      rcases t.sub b ob₁ e₁ q with q | q
      · exact .inl q
      · rcases s.own b q with q | q
        · exact .inr q
        · rw [e] at q; cases q
    · exact .inr q
  · obtain ⟨ob₁, e₁⟩ := s.there b ob e
    exact s.new b ob e (t.new b ob₁ e₁ hb)
  · rcases t.air with rfl | ⟨h0, a, rfl, ha⟩
    · exact s.air
    · refine .inr ⟨?_, a, rfl, nope ha⟩
      rcases s.air with e | ⟨e, _⟩
      · rw [← e]; exact h0
      · exact e
  · rcases t.own b e with q | q
    · exact s.own b q
    · exact .inr (nope q)
end
end Mine
end

section
open PySem PySem.Calls PyProof.Rows
set_option maxRecDepth 100000
namespace Mine
section
variable {c : Cfg} {env : Env} {N : List Str} {o aA aA' : Option Addr} {X X' : Addr → Prop} {h h' : Heap} {ρ : List DV} {m cm : Str → Option Value}
structure RmN (A : Around) (n : Nat) : Prop where
  handled : A.handled = none
  depth : A.depth + n < recursionLimit
  units : A.units + 40 + 8 * n < cLine
theorem RmN.rm {A : Around} {n : Nat} (r : RmN A n) : Rm A := ⟨r.handled, by have := r.units; lia⟩
theorem RmN.le {A : Around} {n k : Nat} (r : RmN A n) (hk : k ≤ n) : RmN A k := ⟨r.handled, by have := r.depth; lia, by have := r.units; lia⟩
structure GI (c : Cfg) (s : Shared) (X : Addr → Prop) (aA : Option Addr) (α : Air) : Prop where
  inv : Inv c s
  xb : XB s.heap X
  air : AirOK c s.heap X aA α
  mx : ∀ b, MutP c aA b → X b
noncomputable def Offs (c : Cfg) (env : Env) (aA : Option Addr) : Prop := ∀ b, Frm env none b → ¬ MutP c aA b
theorem Nm.gstep (n : Nm env N h X aA ρ m cm) (s : GStep c aA X h aA' X' h') (hm : ∀ b, MutP c aA b → X b) (of : Offs c env aA) : Nm env N h' X' aA' ρ m cm :=
  ⟨n.ns.at' fun ob e => s.keep _ ob e (of _ (.inl rfl)),
    fun x a e => let ⟨ob, ho, hd⟩ := n.cell x a e; ⟨ob, s.keep _ ob ho (of _ (.inr (.inl ⟨x, e⟩))), hd⟩,
    fun i d e ne => let ⟨x, v, a, b, r⟩ := n.val i d e ne; ⟨x, v, a, b, s.rel hm r⟩⟩
theorem AirIs.mono {a : Addr} {its : List DV} (i : AirIs c h X a its) (hk : ∀ b o, h.get? b = some o → ¬ X b → h'.get? b = some o) (ha : ∀ o, h.get? a = some o → h'.get? a = some o) (hx : ∀ b o, h.get? b = some o → ¬ X b → ¬ X' b) : AirIs c h' X' a its := by
  obtain ⟨dx, vs, n, hsh, tk, t, ep, h0, h1, h2, h3, h4, h5, h6⟩ := i
  exact ⟨dx, vs, n, hsh, tk, t, ep, h0, ha _ h1, hx _ _ h4 h2, h3, hk _ _ h4 h2, h5, h6.mono hk hx fun _ e => e⟩
theorem AirOK.mono {α : Air} (i : AirOK c h X aA α) (hk : ∀ b o, h.get? b = some o → ¬ X b → h'.get? b = some o) (ha : ∀ a, aA = some a → ∀ o, h.get? a = some o → h'.get? a = some o) (hx : ∀ b o, h.get? b = some o → ¬ X b → ¬ X' b) (hs : ∀ b, aA = some b → X b → X' b) : AirOK c h' X' aA α := by
  unfold AirOK at i ⊢
  cases aA <;> cases α <;> first | exact i | exact ⟨hs _ rfl i.1, i.2.mono hk (ha _ rfl) hx⟩
theorem GI.pure {s : Shared} {α : Air} (g : GI c s X aA α) {h' : Heap} {tk : Nat} (hk : ∀ b o, s.heap.get? b = some o → h'.get? b = some o) : GI c { s with heap := h', toks := tk } X aA α :=
  ⟨g.inv.keeps hk, g.xb.keeps hk, g.air.mono (fun b o e _ => hk b o e) (fun _ _ o e => hk _ o e) (fun _ _ _ n => n) fun _ _ e => e, g.mx⟩
theorem GI.same (ok : CfgOK c) {s : Shared} {α : Air} (g : GI c s X aA α) {h' : Heap} {tk : Nat} {a : Addr} (ha : c.h₁.get? a = none) (hX : X a) (hm : ¬ MutP c aA a) (hs : Heap.SameBut a s.heap h') (hex : ∃ o, h'.get? a = some o) : GI c { s with heap := h', toks := tk } X aA α := by
  have hk : ∀ b o, s.heap.get? b = some o → ¬ X b → h'.get? b = some o := fun b o e nx => (hs.2 b fun q => nx (q ▸ hX)).trans e
  refine ⟨g.inv.same ok ha hs, fun b hb => ?_, g.air.mono hk (fun a' e' ob e => (hs.2 a' fun q => hm (q ▸ .inr (.inr e'))).trans e) (fun _ _ _ n => n) fun _ _ e => e, g.mx⟩
  by_cases q : b = a
  · exact q ▸ hex
  · obtain ⟨ob, e⟩ := g.xb b hb
    exact ⟨ob, (hs.2 b q).trans e⟩
theorem OwnOK.gstep {own : Option (Nat × OwnK)} (w : OwnOK env N h X aA m cm own o) (s : GStep c aA X h aA' X' h') (hm : ∀ b, MutP c aA b → X b) (ho : ∀ b, o = some b → ¬ MutP c aA b) : OwnOK env N h' X' aA' m cm own o := by
  unfold OwnOK at w ⊢
  split at w
  · trivial
  · obtain ⟨x, vs, h1, h2, ⟨n, h3⟩, h4, h5⟩ := w
    exact ⟨x, vs, h1, h2, ⟨n, s.keep _ _ h3 (ho _ rfl)⟩, h4, s.relL hm h5⟩
  · obtain ⟨x, l, k, vs, h1, h2, h3, h4, ⟨n, h5⟩, h6, h7⟩ := w
    obtain ⟨ob, e1, e2⟩ := h3
    exact ⟨x, l, k, vs, h1, h2, ⟨ob, s.keep _ _ e1 (ho _ rfl), e2⟩, fun q => h4 (s.new _ _ h5 q), ⟨n, s.data hm _ _ h5 h4⟩, h6, s.relL hm h7⟩
  · exact w
theorem FI.gi {s : Shared} {σ : St} (f : FI c env N s σ o aA X) : GI c s X aA σ.air := ⟨f.inv, f.xb, f.air, f.fr.mx⟩
theorem FI.offs {s : Shared} {σ : St} (f : FI c env N s σ o aA X) : Offs c env aA := fun b hb => (f.fr.mu b (hb.imp id (Or.imp id fun e => by cases e))).1
theorem FI.gstep {s s' : Shared} {σ : St} {α' : Air} (f : FI c env N s σ o aA X) (st : GStep c aA X s.heap aA' X' s'.heap) (g : GI c s' X' aA' α') : FI c env N s' { σ with air := α' } o aA' X' := by
  obtain ⟨m, cm, n, w⟩ := f.nm
  refine ⟨g.inv, g.xb, g.air, ⟨fun b hb => ?_, g.mx, f.fr.apart, f.fr.offL, f.fr.offO⟩, m, cm, n.gstep st f.fr.mx f.offs, w.gstep st f.fr.mx fun b hb => (f.fr.mu b (.inr (.inr hb))).1⟩
  obtain ⟨h1, h2, h3⟩ := f.fr.mu b hb
  obtain ⟨ob, e⟩ := f.xb b h2
  exact ⟨MutP.still e st.air h1, st.sub b h2, h3⟩
theorem FI.pure {s : Shared} {σ : St} (f : FI c env N s σ o aA X) {h' : Heap} {tk : Nat} (hk : ∀ b ob, s.heap.get? b = some ob → h'.get? b = some ob) : FI c env N { s with heap := h', toks := tk } σ o aA X :=
  f.gstep (GStep.pure hk) (f.gi.pure hk)
end
section
variable {prog : Program} {w : World} {c : Cfg} {sc : List (Str × NameKind)} {N : List Str} {n : Nat}
noncomputable def GE (prog : Program) (w : World) (c : Cfg) (sc : List (Str × NameKind)) (N : List Str) (n : Nat) (e : Expr) (f : List DV → Air → Option (DV × Air)) : Prop :=
  ∀ (A : Around) (env : Env) (s : Shared) (X : Addr → Prop) (aA : Option Addr) (α : Air) (ρ : List DV) (m cm : Str → Option Value) (d : DV) (α' : Air), EnvOk env sc → RmN A n → GI c s X aA α → Offs c env aA → Nm env N s.heap X aA ρ m cm → f ρ α = some (d, α') →
    ∀ (Q : Value → Shared → Prop) (E : Value → Shared → Prop), (∀ v s' aA' X', Rel s'.heap X' aA' v d → GStep c aA X s.heap aA' X' s'.heap → GI c s' X' aA' α' → Q v s') → wpAny (model prog w) A (eval e env) Q E s
noncomputable def GT (prog : Program) (w : World) (c : Cfg) (sc : List (Str × NameKind)) (N : List Str) (n : Nat) (e : Expr) (f : List DV → Air → Option (Bool × Air)) : Prop :=
  ∀ (A : Around) (env : Env) (s : Shared) (X : Addr → Prop) (aA : Option Addr) (α : Air) (ρ : List DV) (m cm : Str → Option Value) (b : Bool) (α' : Air), EnvOk env sc → RmN A n → GI c s X aA α → Offs c env aA → Nm env N s.heap X aA ρ m cm → f ρ α = some (b, α') →
    ∀ (Q : Bool → Shared → Prop) (E : Value → Shared → Prop), (∀ s' aA' X', GStep c aA X s.heap aA' X' s'.heap → GI c s' X' aA' α' → Q b s') → wpAny (model prog w) A (isTrue e env (eval e env)) Q E s
noncomputable def gP (f : List DV → Option DV) : List DV → Air → Option (DV × Air) := fun ρ α => (f ρ).map fun d => (d, α)
noncomputable def gPT (f : List DV → Option Bool) : List DV → Air → Option (Bool × Air) := fun ρ α => (f ρ).map fun d => (d, α)
theorem ge_p {e : Expr} {f : List DV → Option DV} (hf : SE prog w c sc N e f) : GE prog w c sc N n e (gP f) := by
  intro A env s X aA α ρ m cm d α' he hA g of hn hd Q E h
  obtain ⟨d', hd', e⟩ := omap hd
  cases e
  exact hf A env s X aA ρ m cm d he hA.rm g.inv.glo g.xb hn hd' _ _ fun v h' tk r k => h v _ aA X r (GStep.pure k) (g.pure k)
theorem gt_p {e : Expr} {f : List DV → Option Bool} (hf : ST prog w c sc N e f) : GT prog w c sc N n e (gPT f) := by
  intro A env s X aA α ρ m cm d α' he hA g of hn hd Q E h
  obtain ⟨d', hd', e⟩ := omap hd
  cases e
  exact hf A env s X aA ρ m cm d he hA.rm g.inv.glo g.xb hn hd' _ _ fun h' tk k => h _ aA X (GStep.pure k) (g.pure k)
theorem Offs.still {env : Env} {aA aA' : Option Addr} {X X' : Addr → Prop} {s : Shared} {h' : Heap} {ρ : List DV} {m cm : Str → Option Value} (of : Offs c env aA) (hn : Nm env N s.heap X aA ρ m cm) (st : GStep c aA X s.heap aA' X' h') : Offs c env aA' := by
  intro b hb
  have : ∃ o, s.heap.get? b = some o := by
    rcases hb with rfl | ⟨x, hb⟩ | hb
    · obtain ⟨ob, _, _, e, _⟩ := hn.ns; exact ⟨ob, e⟩
    · obtain ⟨ob, e, _⟩ := hn.cell x b hb; exact ⟨ob, e⟩
    · cases hb
  obtain ⟨ob, e⟩ := this
  exact MutP.still e st.air (of b hb)
noncomputable def GL (prog : Program) (w : World) (c : Cfg) (sc : List (Str × NameKind)) (N : List Str) (n : Nat) (es : List Expr) (f : List DV → Air → Option (List DV × Air)) : Prop :=
  ∀ (A : Around) (env : Env) (s : Shared) (X : Addr → Prop) (aA : Option Addr) (α : Air) (ρ : List DV) (m cm : Str → Option Value) (ds : List DV) (α' : Air) (pos : Pos), EnvOk env sc → RmN A n → GI c s X aA α → Offs c env aA → Nm env N s.heap X aA ρ m cm → f ρ α = some (ds, α') →
    ∀ (Q : List Value → Shared → Prop) (E : Value → Shared → Prop), (∀ vs s' aA' X', RelL s'.heap X' aA' vs ds → GStep c aA X s.heap aA' X' s'.heap → GI c s' X' aA' α' → Q vs s') → wpAny (model prog w) A (spliced (backTo pos (starEach es env))) Q E s
noncomputable def glNil : List DV → Air → Option (List DV × Air) := fun _ α => some ([], α)
noncomputable def glCons (f : List DV → Air → Option (DV × Air)) (g : List DV → Air → Option (List DV × Air)) : List DV → Air → Option (List DV × Air) := fun ρ α => (f ρ α).bind fun p => (g ρ p.2).map fun q => (p.1 :: q.1, q.2)
theorem gl_nil : GL prog w c sc N n [] glNil := by
  intro A env s X aA α ρ m cm ds α' pos he hA g of hn hd Q E h
  cases hd
  exact wpAny_items_nil (h _ _ _ _ .nil (GStep.refl ..) g)
theorem gl_cons {e : Expr} {es : List Expr} {f : List DV → Air → Option (DV × Air)} {k : List DV → Air → Option (List DV × Air)} (hf : GE prog w c sc N n e f) (hk : GL prog w c sc N n es k)
    (hst : ∀ env, starEach (e :: es) env = (false, eval e env) :: starEach es env := by intro _; rfl) : GL prog w c sc N n (e :: es) (glCons f k) := by
  intro A env s X aA α ρ m cm ds α' pos he hA g of hn hd Q E h
  obtain ⟨⟨a, α₁⟩, ha, hd⟩ := obind hd
  obtain ⟨⟨ds', α₂⟩, hds, e⟩ := omap hd
  cases e
  refine wpAny_items_cons (hf A env s X aA α ρ m cm a α₁ he hA g of hn ha _ _ fun v₁ s₁ aA₁ X₁ r₁ st₁ g₁ => ?_) (hst env)
  refine hk A env s₁ X₁ aA₁ α₁ ρ m cm ds' α₂ pos he hA g₁ (of.still hn st₁) (hn.gstep st₁ g.mx of) hds _ _ fun vs s₂ aA₂ X₂ r₂ st₂ g₂ => ?_
  exact h _ s₂ aA₂ X₂ (.cons (st₂.rel g₁.mx r₁) r₂) (st₁.trans st₂) g₂
noncomputable def gBin (op : Operator) (f g : List DV → Air → Option (DV × Air)) : List DV → Air → Option (DV × Air) := fun ρ α => (f ρ α).bind fun p => (g ρ p.2).bind fun q => (binD op p.1 q.1).map fun d => (d, q.2)
theorem ge_bin {l r : Expr} {op : Operator} {pos : Pos} {f g : List DV → Air → Option (DV × Air)} (hl : GE prog w c sc N n l f) (hr : GE prog w c sc N n r g) : GE prog w c sc N n (.BinOp l op r pos) (gBin op f g) := by
  intro A env s X aA α ρ m cm d α' he hA g of hn hd Q E h
  obtain ⟨⟨a, α₁⟩, ha, hd⟩ := obind hd
  obtain ⟨⟨b, α₂⟩, hb, hd⟩ := obind hd
  obtain ⟨d', hd', e⟩ := omap hd
  cases e
  refine wpAny_BinOp (hl A env s X aA α ρ m cm a α₁ he hA g of hn ha _ _ fun v₁ s₁ aA₁ X₁ r₁ st₁ g₁ => ?_)
  refine hr A env s₁ X₁ aA₁ α₁ ρ m cm b α₂ he hA g₁ (of.still hn st₁) (hn.gstep st₁ g.mx of) hb _ _ fun v₂ s₂ aA₂ X₂ r₂ st₂ g₂ => ?_
  exact bin_ok g₂.xb (st₂.rel g₁.mx r₁) r₂ hd' _ _ fun v h₃ tk₃ r₃ k₃ => h v _ aA₂ X₂ r₃ ((st₁.trans st₂).trans (GStep.pure k₃)) (g₂.pure k₃)
noncomputable def gCmp (op : CmpOp) (f g : List DV → Air → Option (DV × Air)) : List DV → Air → Option (Bool × Air) := fun ρ α => (f ρ α).bind fun p => (g ρ p.2).bind fun q => (cmpD op p.1 q.1).map fun d => (d, q.2)
noncomputable def gCmpV (op : CmpOp) (f g : List DV → Air → Option (DV × Air)) : List DV → Air → Option (DV × Air) := fun ρ α => (gCmp op f g ρ α).map fun p => (.bool p.1, p.2)
theorem gt_cmp {l r : Expr} {op : CmpOp} {pos : Pos} {f g : List DV → Air → Option (DV × Air)} (hl : GE prog w c sc N n l f) (hr : GE prog w c sc N n r g) (hm : behindInMarks op r = false := by with_unfolding_all rfl) : GT prog w c sc N n (.Compare l [op] [r] pos) (gCmp op f g) := by
  intro A env s X aA α ρ m cm d α' he hA g of hn hd Q E h
  obtain ⟨⟨a, α₁⟩, ha, hd⟩ := obind hd
  obtain ⟨⟨b, α₂⟩, hb, hd⟩ := obind hd
  obtain ⟨d', hd', e⟩ := omap hd
  cases e
  refine wpAny_isTrue_Compare1 (hl A env s X aA α ρ m cm a α₁ he hA g of hn ha _ _ fun v₁ s₁ aA₁ X₁ r₁ st₁ g₁ => ?_) hm
  refine hr A env s₁ X₁ aA₁ α₁ ρ m cm b α₂ he hA g₁ (of.still hn st₁) (hn.gstep st₁ g.mx of) hb _ _ fun v₂ s₂ aA₂ X₂ r₂ st₂ g₂ => ?_
  exact cmp_ok (st₂.rel g₁.mx r₁) r₂ hd' (wpAny_truthy_bool (h s₂ aA₂ X₂ (st₁.trans st₂) g₂))
theorem ge_cmp {l r : Expr} {op : CmpOp} {pos : Pos} {f g : List DV → Air → Option (DV × Air)} (hl : GE prog w c sc N n l f) (hr : GE prog w c sc N n r g) (hm : behindInMarks op r = false := by with_unfolding_all rfl) : GE prog w c sc N n (.Compare l [op] [r] pos) (gCmpV op f g) := by
  intro A env s X aA α ρ m cm d α' he hA g of hn hd Q E h
  obtain ⟨⟨b', α₃⟩, hc, e⟩ := omap hd
  cases e
  obtain ⟨⟨a, α₁⟩, ha, hc⟩ := obind hc
  obtain ⟨⟨b, α₂⟩, hb, hc⟩ := obind hc
  obtain ⟨d', hd', e⟩ := omap hc
  cases e
  refine wpAny_Compare1 (hl A env s X aA α ρ m cm a α₁ he hA g of hn ha _ _ fun v₁ s₁ aA₁ X₁ r₁ st₁ g₁ => ?_) hm
  refine hr A env s₁ X₁ aA₁ α₁ ρ m cm b α₂ he hA g₁ (of.still hn st₁) (hn.gstep st₁ g.mx of) hb _ _ fun v₂ s₂ aA₂ X₂ r₂ st₂ g₂ => ?_
  exact cmp_ok (st₂.rel g₁.mx r₁) r₂ hd' (h _ s₂ aA₂ X₂ (.bool _) (st₁.trans st₂) g₂)
noncomputable def gIf (t : List DV → Air → Option (Bool × Air)) (f g : List DV → Air → Option (DV × Air)) : List DV → Air → Option (DV × Air) := fun ρ α => (t ρ α).bind fun p => if p.1 then f ρ p.2 else g ρ p.2
theorem ge_ife {t x y : Expr} {pos : Pos} {ft : List DV → Air → Option (Bool × Air)} {f g : List DV → Air → Option (DV × Air)} (ht : GT prog w c sc N n t ft) (hf : GE prog w c sc N n x f) (hg' : GE prog w c sc N n y g) : GE prog w c sc N n (.IfExp t x y pos) (gIf ft f g) := by
  intro A env s X aA α ρ m cm d α' he hA g of hn hd Q E h
  obtain ⟨⟨b, α₁⟩, hb, hd⟩ := obind hd
  refine wpAny_IfExp (ht A env s X aA α ρ m cm b α₁ he hA g of hn hb _ _ fun s₁ aA₁ X₁ st₁ g₁ => ?_)
  cases b with
  | true => exact hf A env s₁ X₁ aA₁ α₁ ρ m cm d α' he hA g₁ (of.still hn st₁) (hn.gstep st₁ g.mx of) (by simpa using hd) _ _ fun v s₂ aA₂ X₂ r₂ st₂ g₂ => h v s₂ aA₂ X₂ r₂ (st₁.trans st₂) g₂
  | false => exact hg' A env s₁ X₁ aA₁ α₁ ρ m cm d α' he hA g₁ (of.still hn st₁) (hn.gstep st₁ g.mx of) (by simpa using hd) _ _ fun v s₂ aA₂ X₂ r₂ st₂ g₂ => h v s₂ aA₂ X₂ r₂ (st₁.trans st₂) g₂
noncomputable def gAnd (f g : List DV → Air → Option (DV × Air)) : List DV → Air → Option (DV × Air) := fun ρ α => (f ρ α).bind fun p => (truD p.1).bind fun b => if b then g ρ p.2 else some p
theorem ge_and {x y : Expr} {pos : Pos} {f g : List DV → Air → Option (DV × Air)} (hf : GE prog w c sc N n x f) (hg' : GE prog w c sc N n y g) : GE prog w c sc N n (.BoolOp .And [x, y] pos) (gAnd f g) := by
  intro A env s X aA α ρ m cm d α' he hA g of hn hd Q E h
  obtain ⟨⟨a, α₁⟩, ha, hd⟩ := obind hd
  obtain ⟨b, hb, hd⟩ := obind hd
  refine wpAny_And2 (hf A env s X aA α ρ m cm a α₁ he hA g of hn ha _ _ fun v₁ s₁ aA₁ X₁ r₁ st₁ g₁ => ?_)
  refine tru_ok r₁ hb _ _ fun h₂ tk₂ k₂ => ?_
  have st₂ := st₁.trans (GStep.pure (c := c) k₂)
  cases b with
  | true => exact hg' A env _ X₁ aA₁ α₁ ρ m cm d α' he hA (g₁.pure k₂) (of.still hn st₂) (hn.gstep st₂ g.mx of) (by simpa using hd) _ _ fun v s₃ aA₃ X₃ r₃ st₃ g₃ => h v s₃ aA₃ X₃ r₃ (st₂.trans st₃) g₃
  | false =>
    simp only [Bool.false_eq_true, if_false, Option.some.injEq, Prod.mk.injEq] at hd
    obtain ⟨rfl, rfl⟩ := hd
    exact h v₁ _ aA₁ X₁ (r₁.keeps k₂) st₂ (g₁.pure k₂)
noncomputable def gList (g : List DV → Air → Option (List DV × Air)) : List DV → Air → Option (DV × Air) := fun ρ α => (g ρ α).bind fun p => if p.1.length ≤ sizeB then some (.lst p.1, p.2) else none
noncomputable def gTup (g : List DV → Air → Option (List DV × Air)) : List DV → Air → Option (DV × Air) := fun ρ α => (g ρ α).bind fun p => if p.1.length ≤ sizeB then some (.tup p.1, p.2) else none
theorem ge_list {es : List Expr} {pos : Pos} {g : List DV → Air → Option (List DV × Air)} (hg' : GL prog w c sc N n es g) : GE prog w c sc N n (.List es pos) (gList g) := by
  intro A env s X aA α ρ m cm d α' he hA g of hn hd Q E h
  obtain ⟨⟨ds, α₁⟩, ha, hd⟩ := obind hd
  split at hd
  · rename_i hz
    cases hd
    refine wpAny_List (hg' A env s X aA α ρ m cm ds α₁ pos he hA g of hn ha _ _ fun vs s₁ aA₁ X₁ r₁ st₁ g₁ => ?_)
    have hlen := r₁.length
    have hz : ds.length ≤ sizeB := hz
    have k : ∀ b o, s₁.heap.get? b = some o → (s₁.heap.push { cls := .type "list", data := .seq vs.toArray }).get? b = some o := fun _ _ e => Heap.get?_push_of_some _ e
    exact ⟨lt_sizeLine (by lia), h _ _ aA₁ X₁ (.lst (g₁.xb.fresh (Nat.le_refl _)) ⟨_, Heap.get?_push_size _ rfl⟩ (by lia) (r₁.keeps k)) (st₁.trans (GStep.pure k)) (g₁.pure (tk := s₁.toks) k)⟩
  · cases hd
theorem ge_tup {es : List Expr} {j : Nat} {pos : Pos} {g : List DV → Air → Option (List DV × Air)} (hg' : GL prog w c sc N n es g) : GE prog w c sc N n (.Tuple es j pos) (gTup g) := by
  intro A env s X aA α ρ m cm d α' he hA g of hn hd Q E h
  obtain ⟨⟨ds, α₁⟩, ha, hd⟩ := obind hd
  split at hd
  · rename_i hz
    cases hd
    refine wpAny_Tuple (hg' A env s X aA α ρ m cm ds α₁ pos he hA g of hn ha _ _ fun vs s₁ aA₁ X₁ r₁ st₁ g₁ => ?_)
    have hlen := r₁.length
    have hz : ds.length ≤ sizeB := hz
    have k : ∀ b o, s₁.heap.get? b = some o → (s₁.heap.push { cls := .type "tuple", data := .seq vs.toArray }).get? b = some o := fun _ _ e => Heap.get?_push_of_some _ e
    exact ⟨lt_sizeLine (by lia), h _ _ aA₁ X₁ (.tup (g₁.xb.fresh (Nat.le_refl _)) ⟨_, Heap.get?_push_size _ rfl, rfl, _, rfl⟩ (by lia) (r₁.keeps k)) (st₁.trans (GStep.pure k)) (g₁.pure (tk := s₁.toks) k)⟩
  · cases hd
noncomputable def gMeth1 (ok : DV → Bool) (f : List DV → Air → Option (DV × Air)) (k : List DV → Option DV) (g : List DV → Option (List DV)) : List DV → Air → Option (DV × Air) := fun ρ α => (f ρ α).bind fun p => if ok p.1 then (g ρ).bind fun ds => (k (p.1 :: ds)).map fun d => (d, p.2) else none
theorem ge_meth1 {ob e : Expr} {es : List Expr} {name : Str} {id : String} {apos pos : Pos} {ok : DV → Bool} {f : List DV → Air → Option (DV × Air)} {g : List DV → Option (List DV)} {k : List DV → Option DV} (hm : GMok prog w name id ok) (hb : BI prog w (.builtin id) k) (hf : GE prog w c sc N n ob f) (hg' : SL prog w c sc N (e :: es) g)
    (hbase : ∀ env, attributeBase ob name env (eval ob env) = eval ob env := by intro _; rfl) (hline : (apos.endLine == pos.line) = true := by rfl) (hform : ∀ env, methodCallForm ((e :: es).length + ([] : List Keyword).length) (backTo pos (starEach (e :: es) env)) [] = true := by intro _; rfl)
    (hst : ∀ env, starEach (e :: es) env = (false, eval e env) :: starEach es env := by intro _; rfl) (hpl : ∀ env pos, (backTo pos (starEach es env)).any (·.1) = false := by intro _ _; rfl) :
    GE prog w c sc N n (.Call (.Attribute ob name apos) (e :: es) [] pos) (gMeth1 ok f k g) := by
  intro A env s X aA α ρ m cm d α' he hA g of hn hd Q E h
  obtain ⟨⟨a, α₁⟩, ha, hd⟩ := obind hd
  split at hd
  · rename_i hok
    obtain ⟨ds, hds, hd⟩ := obind hd
    obtain ⟨d', hd', e⟩ := omap hd
    cases e
    refine method_raw (hbase env) (hform env) hline (hf A env s X aA α ρ m cm a α₁ he hA g of hn ha _ _ fun v₁ s₁ aA₁ X₁ r₁ st₁ g₁ pl => ?_)
    refine hm A _ X₁ aA₁ v₁ a pl _ _ r₁ hok (PyProof.Rows.callWith_method1 ?_ (hst _) (hpl _ _))
    refine hg' A env s₁ X₁ aA₁ ρ m cm ds pos he hA.rm g₁.inv.glo g₁.xb (hn.gstep st₁ g.mx of) hds _ _ fun vs h₂ tk₂ r₂ k₂ => ?_
    exact hb A _ X₁ aA₁ (v₁ :: vs) (a :: ds) _ hA.rm (g₁.xb.keeps k₂) (.cons (r₁.keeps k₂) r₂) hd' _ _ fun v h₃ tk₃ r₃ k₃ => h v _ aA₁ X₁ r₃ ((st₁.trans (GStep.pure k₂)).trans (GStep.pure k₃)) ((g₁.pure (tk := tk₂) k₂).pure (tk := tk₃) k₃)
  · cases hd
end
end Mine
end

section
open PySem PySem.Calls PyProof.Rows
set_option maxRecDepth 100000
namespace Mine
section
variable {prog : Program} {w : World} {c : Cfg} {env : Env} {sc : List (Str × NameKind)} {N : List Str} {o aA aA' : Option Addr} {X X' : Addr → Prop} {h h' : Heap} {ρ : List DV} {m cm : Str → Option Value} {A : Around} {s : Shared}
noncomputable def Stored (env : Env) (h : Heap) (m cm : Str → Option Value) (x : Str) (v : Value) (h' : Heap) (a₀ : Addr) (m' cm' : Str → Option Value) : Prop :=
  Frm env none a₀ ∧ Heap.SameBut a₀ h h' ∧ (∃ ob, h'.get? a₀ = some ob) ∧ h'.Ns env.locals m' ∧ (∀ n b, env.cells.lookup n = some b → h'.IsCell b (cm' n)) ∧ valOf env m' cm' x = some v ∧ (∀ y, y ≠ x → valOf env m' cm' y = valOf env m cm y)
theorem store_raw {x : Str} {v : Value} (he : EnvOk env sc) (n : Nm env N s.heap X aA ρ m cm) (hap : ∀ x y b, env.cells.lookup x = some b → env.cells.lookup y = some b → x = y) (hoff : ∀ n b, env.cells.lookup n = some b → env.locals ≠ b)
    (hk : sc.lookup x = some .local ∨ sc.lookup x = some .cell) {Q : Unit → Shared → Prop} {E : Value → Shared → Prop}
    (H : ∀ h' tk a₀ m' cm', Stored env s.heap m cm x v h' a₀ m' cm' → Q () { s with heap := h', toks := tk }) : wpAny (model prog w) A (storeName env x v) Q E s := by
  rcases hk with hk | hk
  · have hk' : env.kindOf x = some .local := (he.kindOf x).trans hk
    refine wpAny_storeName_local hk' n.ns (fun h' hn' hs => H h' _ env.locals _ cm ⟨.inl rfl, hs, let ⟨ob, _, _, e, _⟩ := hn'; ⟨ob, e⟩, hn', fun y b e => (n.cell y b e).sameBut hs (Ne.symm (hoff y b e)), ?_, fun y hy => ?_⟩) (by rw [he.kind]; rfl)
    · unfold valOf; rw [hk']; simp
    · unfold valOf; simp only [if_neg hy]
  · have hk' : env.kindOf x = some .cell := (he.kindOf x).trans hk
    obtain ⟨b, hb⟩ := Option.isSome_iff_exists.mp (he.cells x (.inl hk))
    refine wpAny_storeName_cell he.kind hk' hb (n.cell x b hb) fun h' hc hs => H h' s.toks b m (fun y => if y = x then some v else cm y) ⟨.inr (.inl ⟨x, hb⟩), hs, let ⟨ob, e, _⟩ := hc; ⟨ob, e⟩, n.ns.sameBut hs (hoff x b hb), fun y b' e => ?_, ?_, fun y hy => ?_⟩
    · by_cases hy : y = x
      · subst hy; rw [hb] at e; cases e; simpa using hc
      · simp only [if_neg hy]
        exact (n.cell y b' e).sameBut hs fun q => hy (hap y x b' e (q ▸ hb))
    · unfold valOf; rw [hk', hb]; simp
    · unfold valOf; simp only [if_neg hy]
theorem nodup_idx {N : List Str} (hN : N.Nodup) {i j : Nat} {x : Str} (hi : N[i]? = some x) (hj : N[j]? = some x) : i = j := by
  have := (List.getElem?_inj (i := i) (j := j) (List.getElem?_eq_some_iff.mp hi).1 hN).mp (hi.trans hj.symm)
  exact this
theorem Nm.stored {x : Str} {v : Value} {a₀ : Addr} {m' cm' : Str → Option Value} {i : Nat} {d : DV} (n : Nm env N h X aA ρ m cm) (hN : N.Nodup) (hi : N[i]? = some x) (st : Stored env h m cm x v h' a₀ m' cm') (hX : X a₀) (r : d ≠ .undef → Rel h X aA v d) : Nm env N h' X aA (ρ.set i d) m' cm' := by
  obtain ⟨_, hs, _, h1, h2, h3, h4⟩ := st
  have hk : ∀ b o, h.get? b = some o → ¬ X b → h'.get? b = some o := fun b o e nx => (hs.2 b fun q => nx (q ▸ hX)).trans e
  refine ⟨h1, h2, fun j e hj hne => ?_⟩
  rw [List.getElem?_set] at hj
  split at hj
  · rename_i hij
    split at hj
    · cases hj
      exact ⟨x, v, hij ▸ hi, h3, (r hne).mono hk (fun _ _ _ n => n) fun _ e => e⟩
    · cases hj
  · rename_i hij
    obtain ⟨y, u, hy, hu, q⟩ := n.val j e hj hne
    refine ⟨y, u, hy, ?_, q.mono hk (fun _ _ _ n => n) fun _ e => e⟩
    rw [h4 y fun q => hij (nodup_idx hN hi (q ▸ hy))]
    exact hu
theorem Frm.some {b : Addr} (f : Frm env none b) : Frm env o b := f.imp id (Or.imp id fun e => by cases e)
theorem OwnOK.stored {x : Str} {v : Value} {a₀ : Addr} {m' cm' : Str → Option Value} {i : Nat} {own : Option (Nat × OwnK)} (q : OwnOK env N h X aA m cm own o) (hN : N.Nodup) (hi : N[i]? = some x) (hown : ∀ k z, own = some (k, z) → k ≠ i) (st : Stored env h m cm x v h' a₀ m' cm') (hX : X a₀) (ho : ∀ b, o = some b → b ≠ a₀) : OwnOK env N h' X aA m' cm' own o := by
  obtain ⟨_, hs, _, h1, h2, h3, h4⟩ := st
  have hk : ∀ b o, h.get? b = some o → ¬ X b → h'.get? b = some o := fun b o e nx => (hs.2 b fun q => nx (q ▸ hX)).trans e
  unfold OwnOK at q ⊢
  split at q
  · trivial
  · obtain ⟨y, vs, q1, q2, ⟨z, q3⟩, q4, q5⟩ := q
    refine ⟨y, vs, q1, ?_, ⟨z, (hs.2 _ (ho _ rfl)).trans q3⟩, q4, q5.mono hk (fun _ _ _ n => n) fun _ e => e⟩
    rw [h4 y fun e => hown _ _ rfl (nodup_idx hN q1 (e ▸ hi))]; exact q2
  · obtain ⟨y, l, k, vs, q1, q2, ⟨ob, q3, q3'⟩, q4, ⟨z, q5⟩, q6, q7⟩ := q
    refine ⟨y, l, k, vs, q1, ?_, ⟨ob, (hs.2 _ (ho _ rfl)).trans q3, q3'⟩, q4, ⟨z, hk _ _ q5 q4⟩, q6, q7.mono hk (fun _ _ _ n => n) fun _ e => e⟩
    rw [h4 y fun e => hown _ _ rfl (nodup_idx hN q1 (e ▸ hi))]; exact q2
  · exact q
theorem FrameOK.offs (f : FrameOK c env o aA X) {b : Addr} (hb : Frm env none b) : ¬ MutP c aA b ∧ X b ∧ c.h₁.get? b = none ∧ (∀ a, o = .some a → a ≠ b) := by
  obtain ⟨h1, h2, h3⟩ := f.mu b hb.some
  refine ⟨h1, h2, h3, fun a e q => ?_⟩
  subst q
  obtain ⟨q1, q2⟩ := f.offO a e
  rcases hb with e | ⟨n, e⟩ | e
  · exact q1 e
  · exact q2 n e
  · cases e
theorem FI.stored {σ : St} {x : Str} {v : Value} {a₀ : Addr} {m' cm' : Str → Option Value} {i : Nat} {d : DV} {tk : Nat} (ok : CfgOK c) (f : FI c env N s σ o aA X) (n : Nm env N s.heap X aA σ.ρ m cm) (q : OwnOK env N s.heap X aA m cm σ.own o) (hN : N.Nodup) (hi : N[i]? = some x) (hown : ∀ k z, σ.own = some (k, z) → k ≠ i)
    (st : Stored env s.heap m cm x v h' a₀ m' cm') (r : d ≠ .undef → Rel s.heap X aA v d) : FI c env N { s with heap := h', toks := tk } { σ with ρ := σ.ρ.set i d } o aA X := by
  obtain ⟨h1, h2, h3, h4⟩ := f.fr.offs st.1
  have g := f.gi.same (tk := tk) ok h3 h2 h1 st.2.1 st.2.2.1
  exact ⟨g.inv, g.xb, g.air, f.fr, m', cm', n.stored hN hi st h2 r, q.stored hN hi hown st h2 h4⟩
theorem Stored.step {x : Str} {v : Value} {a₀ : Addr} {m' cm' : Str → Option Value} (st : Stored env h m cm x v h' a₀ m' cm') : SStep c env o aA X h o aA X h' :=
  ⟨fun b ob e _ hf => (st.2.1.2 b fun q => hf (q ▸ st.1.some)).trans e, fun b ob e => by
    by_cases q : b = a₀
    · exact q ▸ st.2.2.1
    · exact ⟨ob, (st.2.1.2 b q).trans e⟩, fun _ _ _ e => .inl e, fun _ _ _ e => e, .inl rfl, fun _ e => .inl e⟩
theorem store_ok {σ : St} {x : Str} {v : Value} {i : Nat} {d : DV} (ok : CfgOK c) (he : EnvOk env sc) (f : FI c env N s σ o aA X) (hN : N.Nodup) (hi : N[i]? = some x) (hk : sc.lookup x = some .local ∨ sc.lookup x = some .cell) (hown : ∀ k z, σ.own = some (k, z) → k ≠ i) (r : Rel s.heap X aA v d)
    {Q : Unit → Shared → Prop} {E : Value → Shared → Prop} (H : ∀ s', SStep c env o aA X s.heap o aA X s'.heap → FI c env N s' { σ with ρ := σ.ρ.set i d } o aA X → Q () s') : wpAny (model prog w) A (storeName env x v) Q E s := by
  obtain ⟨m, cm, n, q⟩ := f.nm
  exact store_raw he n f.fr.apart f.fr.offL hk fun h' tk a₀ m' cm' st => H _ st.step (f.stored ok n q hN hi hown st fun _ => r)
noncomputable abbrev SF := St → Option (Fl × St)
inductive FlR (h : Heap) (X : Addr → Prop) (aA : Option Addr) : Flow → Fl → Prop
  | next : FlR h X aA .next .next
  | brk : FlR h X aA .brk .brk
  | ret {v : Value} {d : DV} : Rel h X aA v d → FlR h X aA (.ret v) (.ret d)
noncomputable def ownOff (σ : St) (i : Nat) : Bool := match σ.own with
  | none => true
  | some (k, _) => k != i
theorem ownOff_ok {σ : St} {i : Nat} (h : ownOff σ i = true) : ∀ k z, σ.own = some (k, z) → k ≠ i := by
  intro k z e; unfold ownOff at h; rw [e] at h; simpa using h
variable (prog w c sc N) in
noncomputable def SX (n : Nat) (st : Stmt) (F : SF) : Prop :=
  ∀ (A : Around) (env : Env) (s : Shared) (σ : St) (o aA : Option Addr) (X : Addr → Prop) (fl : Fl) (σ' : St), EnvOk env sc → RmN A n → FI c env N s σ o aA X → F σ = some (fl, σ') →
    ∀ (Q : Flow → Shared → Prop) (E : Value → Shared → Prop), (∀ f s' o' aA' X', FlR s'.heap X' aA' f fl → SStep c env o aA X s.heap o' aA' X' s'.heap → FI c env N s' σ' o' aA' X' → Q f s') → wpAny (model prog w) A (exec st env) Q E s
variable (prog w c sc N) in
noncomputable def SS (n : Nat) (sts : List Stmt) (F : SF) : Prop :=
  ∀ (A : Around) (env : Env) (s : Shared) (σ : St) (o aA : Option Addr) (X : Addr → Prop) (fl : Fl) (σ' : St), EnvOk env sc → RmN A n → FI c env N s σ o aA X → F σ = some (fl, σ') →
    ∀ (Q : Flow → Shared → Prop) (E : Value → Shared → Prop), (∀ f s' o' aA' X', FlR s'.heap X' aA' f fl → SStep c env o aA X s.heap o' aA' X' s'.heap → FI c env N s' σ' o' aA' X' → Q f s') → wpAny (model prog w) A (execs sts env) Q E s
noncomputable def kNil : SF := fun σ => some (.next, σ)
noncomputable def kSeq (F G : SF) : SF := fun σ => (F σ).bind fun p => match p.1 with
  | .next => G p.2
  | _ => some p
theorem ss_nil {n : Nat} : SS prog w c sc N n [] kNil := by
  intro A env s σ o aA X fl σ' he hA f hF Q E h
  cases hF
  exact wpAny_execs_nil (h _ _ _ _ _ .next .refl f)
theorem ss_cons {n : Nat} {st : Stmt} {sts : List Stmt} {F G : SF} (hf : SX prog w c sc N n st F) (hg : SS prog w c sc N n sts G) : SS prog w c sc N n (st :: sts) (kSeq F G) := by
  intro A env s σ o aA X fl σ' he hA f hF Q E h
  obtain ⟨⟨fl₁, σ₁⟩, h₁, h₂⟩ := obind hF
  refine wpAny_execs_cons (hf A env s σ o aA X fl₁ σ₁ he hA f h₁ _ _ fun f₁ s₁ o₁ aA₁ X₁ r₁ st₁ i₁ => ?_)
  cases r₁ with
  | next => exact hg A env s₁ σ₁ o₁ aA₁ X₁ fl σ' he hA i₁ h₂ _ _ fun f₂ s₂ o₂ aA₂ X₂ r₂ st₂ i₂ => h f₂ s₂ o₂ aA₂ X₂ r₂ (st₁.trans st₂) i₂
  | brk => cases h₂; exact h _ _ _ _ _ .brk st₁ i₁
  | ret r => cases h₂; exact h _ _ _ _ _ (.ret r) st₁ i₁
noncomputable def kSet (i : Nat) (f : List DV → Air → Option (DV × Air)) : SF := fun σ => if ownOff σ i then (f σ.ρ σ.air).map fun p => (.next, { ρ := σ.ρ.set i p.1, own := σ.own, air := p.2 }) else none
theorem sx_set {n : Nat} {x : Str} {px pos : Pos} {e : Expr} {i : Nat} {f : List DV → Air → Option (DV × Air)} (ok : CfgOK c) (hN : N.Nodup) (hf : GE prog w c sc N n e f) (hi : N[i]? = some x) (hk : sc.lookup x = some .local ∨ sc.lookup x = some .cell)
    (hs : ∀ env, swapsWith e (some (.Name x px)) pos.line env = pure false := by intro _; rfl) : SX prog w c sc N n (.Assign [.Name x px] e pos) (kSet i f) := by
  intro A env s σ o aA X fl σ' he hA fi hF Q E h
  unfold kSet at hF
  split at hF
  · rename_i hoff
    obtain ⟨⟨d, α'⟩, hd, e⟩ := omap hF
    cases e
    obtain ⟨m, cm, hn, _⟩ := fi.nm
    refine wpAny_Assign_Name (hf A env s X aA σ.air σ.ρ m cm d α' he hA fi.gi fi.offs hn hd _ _ fun v s₁ aA₁ X₁ r₁ st₁ g₁ => ?_) (hs env)
    have fi₁ := fi.gstep st₁ g₁
    exact store_ok ok he fi₁ hN hi hk (ownOff_ok hoff) r₁ fun s₂ st₂ fi₂ => h _ _ _ _ _ .next ((SStep.of st₁).trans st₂) fi₂
  · cases hF
noncomputable def kSet2 (i j : Nat) (f : List DV → Air → Option (DV × Air)) : SF := fun σ => if ownOff σ i && ownOff σ j then (f σ.ρ σ.air).map fun p => (.next, { ρ := (σ.ρ.set i p.1).set j p.1, own := σ.own, air := p.2 }) else none
end
end Mine
end

section
open PySem PySem.Calls PyProof.Rows
set_option maxRecDepth 100000
namespace Mine
section
variable {prog : Program} {w : World} {c : Cfg} {env : Env} {sc : List (Str × NameKind)} {N : List Str} {o aA aA' o' : Option Addr} {X X' : Addr → Prop} {h h' : Heap} {ρ : List DV} {m cm : Str → Option Value} {A : Around} {s : Shared}
theorem setItem_plain {l : Addr} {items : Array Value} {k : Int} {t : Tok} {v : Value} {Q : Unit → Shared → Prop} {E : Value → Shared → Prop} (hl : s.heap.PlainList l items) (h0 : 0 ≤ k) (hfit : k < 2 ^ 63) (hn : k < items.size)
    (hQ : ∀ h', h'.PlainList l (items.setIfInBounds k.toNat v) → Heap.SameBut l s.heap h' → Q () { s with heap := h' }) : wpAny (model prog w) A (setItem (.ref l) (.int k t) v) Q E s := by
  obtain ⟨n, ho⟩ := hl
  exact PySem.W.ki_setAt (n := n) ho h0 hfit hn (hQ _ ⟨_, Heap.get?_update_self _ ho rfl⟩ (Heap.SameBut.update ..))
theorem SStep.rel (st : SStep c env o aA X h o' aA' X' h') (fr : FrameOK c env o aA X) {v : Value} {d : DV} (r : Rel h X aA v d) : Rel h' X' aA' v d :=
  r.mono (fun b ob e nx => st.keep b ob e (fun q => nx (fr.mx b q)) fun q => nx (fr.mu b q).2.1) (fun b ob e nx x => nx (st.new b ob e x)) fun a e => by
    rcases st.air with q | ⟨q, _⟩
    · rw [q]; exact e
    · rw [q] at e; cases e
theorem sx_set2 {n : Nat} {x y : Str} {px py pos : Pos} {e : Expr} {i j : Nat} {f : List DV → Air → Option (DV × Air)} (ok : CfgOK c) (hN : N.Nodup) (hf : GE prog w c sc N n e f) (hi : N[i]? = some x) (hk : sc.lookup x = some .local ∨ sc.lookup x = some .cell) (hj : N[j]? = some y) (hk' : sc.lookup y = some .local ∨ sc.lookup y = some .cell)
    (hw : ∀ env, swappedStores [.Name x px, .Name y py] e env = pure none := by intro _; rfl) : SX prog w c sc N n (.Assign [.Name x px, .Name y py] e pos) (kSet2 i j f) := by
  intro A env s σ o aA X fl σ' he hA fi hF Q E h
  unfold kSet2 at hF
  split at hF
  · rename_i hoff
    rw [Bool.and_eq_true] at hoff
    obtain ⟨⟨d, α'⟩, hd, e⟩ := omap hF
    cases e
    obtain ⟨m, cm, hn, _⟩ := fi.nm
    refine wpAny_Assign_two (hf A env s X aA σ.air σ.ρ m cm d α' he hA fi.gi fi.offs hn hd _ _ fun v s₁ aA₁ X₁ r₁ st₁ g₁ => ?_) rfl (hw env)
    have fi₁ := fi.gstep st₁ g₁
    refine wpAny_assign_Name (store_ok ok he fi₁ hN hi hk (ownOff_ok hoff.1) r₁ fun s₂ st₂ fi₂ => ?_)
    refine wpAny_assign_Name (store_ok ok he fi₂ hN hj hk' (ownOff_ok hoff.2) (st₂.rel fi₁.fr r₁) fun s₃ st₃ fi₃ => ?_)
    exact h _ _ _ _ _ .next (((SStep.of st₁).trans st₂).trans st₃) fi₃
  · cases hF
noncomputable def kIf (t : List DV → Air → Option (Bool × Air)) (F G : SF) : SF := fun σ => (t σ.ρ σ.air).bind fun p => if p.1 then F { σ with air := p.2 } else G { σ with air := p.2 }
theorem sx_if {n : Nat} {t : Expr} {b e : List Stmt} {pos : Pos} {ft : List DV → Air → Option (Bool × Air)} {F G : SF} (ht : GT prog w c sc N n t ft) (hf : SS prog w c sc N n b F) (hg : SS prog w c sc N n e G) : SX prog w c sc N n (.If t b e pos) (kIf ft F G) := by
  intro A env s σ o aA X fl σ' he hA fi hF Q E h
  obtain ⟨⟨b, α₁⟩, hb, hF⟩ := obind hF
  obtain ⟨m, cm, hn, _⟩ := fi.nm
  refine wpAny_If (ht A env s X aA σ.air σ.ρ m cm b α₁ he hA fi.gi fi.offs hn hb _ _ fun s₁ aA₁ X₁ st₁ g₁ => ?_)
  have fi₁ := fi.gstep st₁ g₁
  cases b with
  | true => exact hf A env s₁ _ o aA₁ X₁ fl σ' he hA fi₁ hF _ _ fun f₂ s₂ o₂ aA₂ X₂ r₂ st₂ i₂ => h f₂ s₂ o₂ aA₂ X₂ r₂ ((SStep.of st₁).trans st₂) i₂
  | false => exact hg A env s₁ _ o aA₁ X₁ fl σ' he hA fi₁ hF _ _ fun f₂ s₂ o₂ aA₂ X₂ r₂ st₂ i₂ => h f₂ s₂ o₂ aA₂ X₂ r₂ ((SStep.of st₁).trans st₂) i₂
noncomputable def kRet (f : List DV → Air → Option (DV × Air)) : SF := fun σ => (f σ.ρ σ.air).map fun p => (.ret p.1, { σ with air := p.2 })
theorem sx_ret {n : Nat} {e : Expr} {pos : Pos} {f : List DV → Air → Option (DV × Air)} (hf : GE prog w c sc N n e f) : SX prog w c sc N n (.Return (some e) pos) (kRet f) := by
  intro A env s σ o aA X fl σ' he hA fi hF Q E h
  obtain ⟨⟨d, α₁⟩, hd, e⟩ := omap hF
  cases e
  obtain ⟨m, cm, hn, _⟩ := fi.nm
  exact wpAny_Return_some (hf A env s X aA σ.air σ.ρ m cm d α₁ he hA fi.gi fi.offs hn hd _ _ fun v s₁ aA₁ X₁ r₁ st₁ g₁ => h _ _ _ _ _ (.ret r₁) (SStep.of st₁) (fi.gstep st₁ g₁))
noncomputable def kBrk : SF := fun σ => some (.brk, σ)
theorem sx_brk {n : Nat} {pos : Pos} : SX prog w c sc N n (.Break pos) kBrk := by
  intro A env s σ o aA X fl σ' he hA fi hF Q E h
  cases hF
  exact wpAny_Break (h _ _ _ _ _ .brk .refl fi)
theorem interactive_fn (he : EnvOk env sc) : interactive env = false := by unfold interactive; rw [he.kind]; rfl
noncomputable def kExpr (f : List DV → Air → Option (DV × Air)) : SF := fun σ => (f σ.ρ σ.air).map fun p => (.next, { σ with air := p.2 })
theorem sx_expr {n : Nat} {e : Expr} {pos : Pos} {f : List DV → Air → Option (DV × Air)} (hf : GE prog w c sc N n e f) (hs : ∀ env, swapsWith e none pos.line env = pure false := by intro _; rfl) : SX prog w c sc N n (.Expr e pos) (kExpr f) := by
  intro A env s σ o aA X fl σ' he hA fi hF Q E h
  obtain ⟨⟨d, α₁⟩, hd, e⟩ := omap hF
  cases e
  obtain ⟨m, cm, hn, _⟩ := fi.nm
  exact wpAny_Expr_any (hf A env s X aA σ.air σ.ρ m cm d α₁ he hA fi.gi fi.offs hn hd _ _ fun v s₁ aA₁ X₁ r₁ st₁ g₁ => h _ _ _ _ _ .next (SStep.of st₁) (fi.gstep st₁ g₁)) (interactive_fn he) (hs env)
noncomputable def augI (i j : Int) : Operator → Option DV
  | .Add => some (.int (i + j))
  | .Sub => some (.int (i - j))
  | .Mult => if i.natAbs < 2 ^ 60 then some (.int (i * j)) else none
  | .LShift => if 0 ≤ j ∧ j ≤ 1000 ∧ i.natAbs < 2 ^ 60 then some (.int (i * 2 ^ j.toNat)) else none
  | .BitXor => some (.int (Builtin.bitXor i j))
  | .BitOr => some (.int (Builtin.bitOr i j))
  | _ => none
noncomputable def augD (op : Operator) (a b : DV) : Option DV := (intD a).bind fun i => (intD b).bind fun j => augI i j op
theorem aug_ok {op : Operator} {v₁ v₂ : Value} {d₁ d₂ d : DV} (r₁ : Rel s.heap X aA v₁ d₁) (r₂ : Rel s.heap X aA v₂ d₂) (hd : augD op d₁ d₂ = some d) : Yields prog w A (inplaceOp op v₁ v₂) X aA s d := by
  intro Q E h
  obtain ⟨i, hi, hd⟩ := obind (show (intD d₁).bind _ = _ from hd)
  obtain ⟨j, hj, hd⟩ := obind hd
  cases intD_some hi
  cases intD_some hj
  cases r₁ using Rel.intC
  cases r₂ using Rel.intC
  cases op with
  | Add => cases hd; exact P.iadd_int (h _ _ _ (.int _ _) fun _ _ e => e)
  | Sub => cases hd; exact P.isub_int (h _ _ _ (.int _ _) fun _ _ e => e)
  | Mult => obtain ⟨hb, rfl⟩ := iteC hd; exact P.imul_int (h _ _ _ (.int _ _) fun _ _ e => e) (.of_left (bits_of_natAbs hb))
  | LShift =>
    obtain ⟨hb, rfl⟩ := iteC hd
    have := bits_of_natAbs hb.2.2
    exact PyProof.Rows.ilshift_int hb.1 (by lia) (h _ _ _ (.int _ _) fun _ _ e => e)
  | BitXor => cases hd; exact PyProof.Rows.ixor_int (h _ _ _ (.int _ _) fun _ _ e => e)
  | BitOr => cases hd; exact PyProof.Rows.ior_int (h _ _ _ (.int _ _) fun _ _ e => e)
  | _ => exact nomatch (show (none : Option DV) = some d from hd)
noncomputable def kAug (op : Operator) (i : Nat) (f : List DV → Air → Option (DV × Air)) : SF := fun σ => if ownOff σ i then (mVar i σ.ρ).bind fun a => (f σ.ρ σ.air).bind fun p => (augD op a p.1).map fun d => (.next, { ρ := σ.ρ.set i d, own := σ.own, air := p.2 }) else none
theorem sx_aug {n : Nat} {x : Str} {px pos : Pos} {e : Expr} {op : Operator} {i : Nat} {f : List DV → Air → Option (DV × Air)} (ok : CfgOK c) (hN : N.Nodup) (hf : GE prog w c sc N n e f) (hi : N[i]? = some x) (hk : sc.lookup x = some .local ∨ sc.lookup x = some .cell)
    (hd : (x == ("__classdict__" : Str)) = false := by decide +kernel) : SX prog w c sc N n (.AugAssign (.Name x px) op e pos) (kAug op i f) := by
  intro A env s σ o aA X fl σ' he hA fi hF Q E h
  unfold kAug at hF
  split at hF
  · rename_i hoff
    obtain ⟨a, ha, hF⟩ := obind hF
    obtain ⟨⟨b, α'⟩, hb, hF⟩ := obind hF
    obtain ⟨d, hdd, e⟩ := omap hF
    cases e
    obtain ⟨m, cm, hn, _⟩ := fi.nm
    obtain ⟨e, ne⟩ := mVar_some ha
    obtain ⟨x', v, ex, ev, r⟩ := hn.val i a e ne
    rw [hi] at ex
    cases ex
    refine wpAny_AugAssign_Name (load_val he.kind hn.ns hn.cell ev hd ?_)
    refine hf A env s X aA σ.air σ.ρ m cm b α' he hA fi.gi fi.offs hn hb _ _ fun v₁ s₁ aA₁ X₁ r₁ st₁ g₁ => ?_
    have fi₁ := fi.gstep st₁ g₁
    refine aug_ok (st₁.rel fi.fr.mx r) r₁ hdd _ _ fun v₂ h₂ tk₂ r₂ k₂ => ?_
    exact store_ok ok he (fi₁.pure (tk := tk₂) k₂) hN hi hk (ownOff_ok hoff) r₂ fun s₃ st₃ fi₃ => h _ _ _ _ _ .next (((SStep.of st₁).trans (SStep.of (GStep.pure k₂))).trans st₃) fi₃
  · cases hF
noncomputable def frz (σ : St) : St := match σ.own with
  | some (k, .lst ds) => { ρ := σ.ρ.set k (.lst ds), own := none, air := σ.air }
  | _ => σ
theorem FI.frz {σ : St} (fi : FI c env N s σ o aA X) : ∃ o' X', SStep c env o aA X s.heap o' aA X' s.heap ∧ FI c env N s (frz σ) o' aA X' := by
  obtain ⟨ρ, own, air⟩ := σ
  obtain ⟨m, cm, n, q⟩ := fi.nm
  match own, o, q with
  | none, _, _ => exact ⟨_, _, .refl, fi⟩
  | some (i, .it ds), _, _ => exact ⟨_, _, .refl, fi⟩
  | some (i, .lst ds), none, q => exact False.elim q
  | some (i, .lst ds), some a, q =>
    obtain ⟨x, vs, h1, h2, h3, h4, h5⟩ := q
    have hx : ∀ b o, s.heap.get? b = some o → ¬ X b → ¬ (X b ∧ b ≠ a) := fun b o e nx q => nx q.1
    have kk : ∀ b o, s.heap.get? b = some o → ¬ X b → s.heap.get? b = some o := fun b o e _ => e
    have hma : ¬ MutP c aA a := (fi.fr.mu a (.inr (.inr rfl))).1
    refine ⟨none, fun b => X b ∧ b ≠ a, ⟨fun _ _ e _ _ => e, fun _ ob e => ⟨ob, e⟩, fun b ob e q => ?_, fun _ _ _ e => e.1, .inl rfl, fun _ e => nomatch e⟩, fi.inv, fun b q => fi.xb b q.1, ?_, ⟨fun b hb => ?_, fun b hb => ⟨fi.fr.mx b hb, fun q => hma (q ▸ hb)⟩, fi.fr.apart, fi.fr.offL, fun b e => nomatch e⟩, m, cm, ⟨n.ns, n.cell, fun j e hj hne => ?_⟩, trivial⟩
    · by_cases e : b = a
      · exact .inr (e ▸ rfl)
      · exact .inl ⟨q, e⟩
    · have ai := fi.air
      revert ai
      show AirOK c s.heap X aA air → AirOK c s.heap _ aA air
      unfold AirOK
      intro ai
      split
      · trivial
      · obtain ⟨q1, q2⟩ := ai
        exact ⟨⟨q1, fun e => hma (e ▸ .inr (.inr rfl))⟩, q2.mono kk (fun _ e => e) hx⟩
      · split at ai <;> simp_all
    · obtain ⟨q1, q2, q3, q4⟩ := fi.fr.offs hb
      exact ⟨q1, ⟨q2, fun e => q4 a rfl e.symm⟩, q3⟩
    · have hj : (ρ.set i (.lst ds))[j]? = some e := hj
      rw [List.getElem?_set] at hj
      split at hj
      · rename_i hij
        split at hj
        · cases hj
          exact ⟨x, _, hij ▸ h1, h2, .lst (fun q => q.2 rfl) h3 h4 (h5.mono kk hx fun _ e => e)⟩
        · cases hj
      · obtain ⟨y, u, hy, hu, r⟩ := n.val j e hj hne
        exact ⟨y, u, hy, hu, r.mono kk hx fun _ e => e⟩
end
end Mine
end

section
open PySem PySem.Calls PyProof.Rows
set_option maxRecDepth 100000
namespace Mine
section
variable {prog : Program} {w : World} {c : Cfg} {env : Env} {sc : List (Str × NameKind)} {N : List Str} {o aA aA' o' : Option Addr} {X X' : Addr → Prop} {h h' : Heap} {ρ : List DV} {m cm : Str → Option Value} {A : Around} {s : Shared}
theorem ss_frz {n : Nat} {sts : List Stmt} {F : SF} (hf : SS prog w c sc N n sts F) : SS prog w c sc N n sts (fun σ => F (frz σ)) := by
  intro A env s σ o aA X fl σ' he hA fi hF Q E h
  obtain ⟨o', X', st, fi'⟩ := fi.frz
  exact hf A env s _ o' aA X' fl σ' he hA fi' hF Q E fun f₂ s₂ o₂ aA₂ X₂ r₂ st₂ i₂ => h f₂ s₂ o₂ aA₂ X₂ r₂ (st.trans st₂) i₂
noncomputable def msk (ρ : List DV) : List DV := ρ.map fun d => if flat d then d else .undef
theorem Nm.msk (n : Nm env N h X aA ρ m cm) : Nm env N h X' aA (msk ρ) m cm := ⟨n.ns, n.cell, fun i d hi hne => by
  unfold Mine.msk at hi
  rw [List.getElem?_map] at hi
  obtain ⟨d', h', e⟩ := omap hi
  split at e
  · rename_i hf
    subst e
    obtain ⟨x, v, h1, h2, r⟩ := n.val i d' h' hne
    exact ⟨x, v, h1, h2, flat_rel r hf⟩
  · exact absurd e.symm hne⟩
theorem Glo.alive {b : Addr} (g : Glo c s.heap) (hm : ∀ b, MutP c aA b → X b) (hx : XB s.heap X) (e : s.heap.get? b = none) : c.h₁.get? b = none := by
  cases q : c.h₁.get? b with
  | none => rfl
  | some ob =>
    by_cases h1 : b = c.P₁
    · obtain ⟨o, e'⟩ := hx b (hm b (.inl h1)); rw [e] at e'; cases e'
    · by_cases h2 : b = c.P₂
      · obtain ⟨o, e'⟩ := hx b (hm b (.inr (.inl h2))); rw [e] at e'; cases e'
      · have := g.keep b ob q h1 h2; rw [e] at this; cases this
noncomputable def kOwn (i : Nat) (f : List DV → Option DV) : SF := fun σ => match σ.own with
  | none => (f (msk σ.ρ)).bind fun d => match d with
    | .lst ds => if ds.all flat then some (.next, { ρ := σ.ρ.set i .undef, own := some (i, .lst ds), air := σ.air }) else none
    | _ => none
  | some _ => none
theorem flatL {h h' : Heap} {X X' : Addr → Prop} {aA aA' : Option Addr} {vs : List Value} : ∀ {ds : List DV}, RelL h X aA vs ds → ds.all flat = true → RelL h' X' aA' vs ds := by
  induction vs with
  | nil => intro ds r _; cases r; exact .nil
  | cons v vs ih =>
    intro ds r hf
    cases r with
    | cons r rs =>
      rw [List.all_cons, Bool.and_eq_true] at hf
      exact .cons (flat_rel r hf.1) (ih rs hf.2)
theorem sx_own {n : Nat} {x : Str} {px pos : Pos} {e : Expr} {i : Nat} {f : List DV → Option DV} (ok : CfgOK c) (hN : N.Nodup) (hf : SE prog w c sc N e f) (hi : N[i]? = some x) (hk : sc.lookup x = some .local ∨ sc.lookup x = some .cell)
    (hs : ∀ env, swapsWith e (some (.Name x px)) pos.line env = pure false := by intro _; rfl) : SX prog w c sc N n (.Assign [.Name x px] e pos) (kOwn i f) := by
  intro A env s σ o aA X fl σ' he hA fi hF Q E h
  obtain ⟨ρ, own, air⟩ := σ
  unfold kOwn at hF
  split at hF
  · rename_i how
    cases how
    obtain ⟨d, hd, hF⟩ := obind hF
    split at hF
    · rename_i ds
      split at hF
      · rename_i hfl
        cases hF
        obtain ⟨m, cm, hn, hq⟩ := fi.nm
        have ho : o = none := by
          unfold OwnOK at hq
          revert hq
          cases o <;> simp
        subst ho
        let X₀ : Addr → Prop := fun b => ∃ ob, s.heap.get? b = some ob
        refine wpAny_Assign_Name (hf A env s X₀ aA (msk ρ) m cm _ he hA.rm fi.inv.glo (fun b e => e) hn.msk hd _ _ fun v h₁ tk₁ r₁ k₁ => ?_) (hs env)
        cases r₁ with
        | @lst a vs _ nx pl hz rl =>
          have hnone : s.heap.get? a = none := by
            cases q : s.heap.get? a with
            | none => rfl
            | some ob => exact absurd ⟨ob, q⟩ nx
          have hmx : ¬ MutP c aA a := fun q => let ⟨ob, e⟩ := fi.xb a (fi.fr.mx a q); nx ⟨ob, e⟩
          let X₁ : Addr → Prop := fun b => X b ∨ b = a
          have gs : GStep c aA X s.heap aA X₁ h₁ := ⟨fun b ob e _ => k₁ b ob e, fun b ob e => ⟨ob, k₁ b ob e⟩, fun b e => .inl e, fun b ob e q => q.elim id fun q => (by rw [q, hnone] at e; cases e), .inl rfl⟩
          have g₁ : GI c { s with heap := h₁, toks := tk₁ } X₁ aA air := by
            refine ⟨fi.inv.keeps k₁, fun b q => ?_, ?_, fun b q => .inl (fi.fr.mx b q)⟩
            · rcases q with q | rfl
              · obtain ⟨ob, e⟩ := fi.xb b q; exact ⟨ob, k₁ b ob e⟩
              · obtain ⟨z, e⟩ := pl; exact ⟨_, e⟩
            · exact fi.air.mono (fun b ob e _ => k₁ b ob e) (fun _ _ ob e => k₁ _ ob e) (fun b ob e nb q => q.elim nb fun q => (by rw [q, hnone] at e; cases e)) fun b _ q => .inl q
          have fi₁ := fi.gstep gs g₁
          obtain ⟨m₁, cm₁, hn₁, hq₁⟩ := fi₁.nm
          refine store_raw he hn₁ fi₁.fr.apart fi₁.fr.offL hk fun h' tk' a₀ m' cm' sd => ?_
          have fi₂ := fi₁.stored (i := i) (tk := tk') (d := .undef) ok hn₁ hq₁ hN hi (fun k z e => nomatch e) sd fun e => absurd rfl e
          have hL : ∀ b, Frm env none b → b ≠ a := fun b hb q => by
            obtain ⟨q1, q2, q3, q4⟩ := fi.fr.offs hb
            obtain ⟨ob, e⟩ := fi.xb b q2
            rw [q, hnone] at e; cases e
          have ne : a ≠ a₀ := fun q => hL a₀ sd.1 q.symm
          refine h _ { s with heap := h', toks := tk' } (some a) aA X₁ .next ⟨fun b ob e hm hf => ?_, fun b ob e => ?_, fun b ob e q => .inl (.inl q), gs.new, .inl rfl, fun b e => .inr ((Option.some.inj e) ▸ hnone)⟩ ?_
          · exact (sd.2.1.2 b fun q => hf (q ▸ sd.1)).trans (k₁ b ob e)
          · by_cases q : b = a₀
            · exact q ▸ sd.2.2.1
            · exact ⟨ob, (sd.2.1.2 b q).trans (k₁ b ob e)⟩
          · obtain ⟨h1, h2, h3, h4, h5, h6, h7⟩ := sd
            refine ⟨fi₂.inv, fi₂.xb, fi₂.air, ⟨fun b hb => ?_, fi₂.fr.mx, fi₂.fr.apart, fi₂.fr.offL, fun b e => ?_⟩, m', cm', hn₁.stored hN hi ⟨h1, h2, h3, h4, h5, h6, h7⟩ (.inl (fi.fr.offs h1).2.1) fun e => absurd rfl e, x, vs, hi, h6, ?_, hz, flatL rl hfl⟩
            · rcases hb with hb | hb | hb
              · exact fi₂.fr.mu b (.inl hb)
              · exact fi₂.fr.mu b (.inr (.inl hb))
              · cases hb
                exact ⟨hmx, .inr rfl, fi.inv.glo.alive fi.fr.mx fi.xb hnone⟩
            · cases e
              exact ⟨fun q => hL _ (.inl rfl) q.symm, fun n q => hL a (.inr (.inl ⟨n, q⟩)) rfl⟩
            · obtain ⟨z, e⟩ := pl
              exact ⟨z, (h2.2 a ne).trans e⟩
      · cases hF
    · cases hF
  · cases hF
inductive LookL (env : Env) (N : List Str) (h : Heap) (X : Addr → Prop) (aA : Option Addr) (ρ : List DV) (o : Option Addr) (k : Nat) (ds : List DV) : Prop
  | mk (a : Addr) (m cm : Str → Option Value) (x : Str) (vs : List Value) (e : o = some a) (n : Nm env N h X aA ρ m cm) (hx : N[k]? = some x) (hv : valOf env m cm x = some (.ref a)) (p : h.PlainList a vs.toArray) (z : vs.length ≤ sizeB) (q : RelL h X aA vs ds)
      (n' : Nm env N h (fun b => X b ∧ b ≠ a) aA (ρ.set k (.lst ds)) m cm) (xb : XB h (fun b => X b ∧ b ≠ a)) : LookL env N h X aA ρ o k ds
theorem FI.look {k : Nat} {ds : List DV} {air : Air} (fi : FI c env N s ⟨ρ, some (k, .lst ds), air⟩ o aA X) : LookL env N s.heap X aA ρ o k ds := by
  obtain ⟨m, cm, n, q⟩ := fi.nm
  match o, q with
  | none, q => exact False.elim q
  | some a, q =>
    obtain ⟨x, vs, h1, h2, h3, h4, h5⟩ := q
    refine ⟨a, m, cm, x, vs, rfl, n, h1, h2, h3, h4, h5, ⟨n.ns, n.cell, fun j e hj hne => ?_⟩, fun b q => fi.xb b q.1⟩
    have hx : ∀ b o, s.heap.get? b = some o → ¬ X b → ¬ (X b ∧ b ≠ a) := fun b o e nx q => nx q.1
    rw [List.getElem?_set] at hj
    split at hj
    · rename_i hij
      split at hj
      · cases hj
        exact ⟨x, _, hij ▸ h1, h2, .lst (fun q => q.2 rfl) h3 h4 (h5.mono (fun b o e _ => e) hx fun _ e => e)⟩
      · cases hj
    · obtain ⟨y, u, hy, hu, r⟩ := n.val j e hj hne
      exact ⟨y, u, hy, hu, r.mono (fun b o e _ => e) hx fun _ e => e⟩
noncomputable def ownL (σ : St) : Option (Nat × List DV) := match σ.own with
  | some (k, .lst ds) => some (k, ds)
  | _ => none
theorem ownL_some {σ : St} {k : Nat} {ds : List DV} (h : ownL σ = some (k, ds)) : σ = ⟨σ.ρ, some (k, .lst ds), σ.air⟩ := by
  obtain ⟨ρ, own, air⟩ := σ
  unfold ownL at h
  split at h
  · rename_i e; cases e; cases h; rfl
  · cases h
noncomputable def kSetO (i : Nat) (f : List DV → Option DV) : SF := fun σ => (ownL σ).bind fun q => if q.1 != i then (f (σ.ρ.set q.1 (.lst q.2))).bind fun d => if flat d then some (.next, { ρ := σ.ρ.set i d, own := σ.own, air := σ.air }) else none else none
theorem sx_setO {n : Nat} {x : Str} {px pos : Pos} {e : Expr} {i : Nat} {f : List DV → Option DV} (ok : CfgOK c) (hN : N.Nodup) (hf : SE prog w c sc N e f) (hi : N[i]? = some x) (hk : sc.lookup x = some .local ∨ sc.lookup x = some .cell)
    (hs : ∀ env, swapsWith e (some (.Name x px)) pos.line env = pure false := by intro _; rfl) : SX prog w c sc N n (.Assign [.Name x px] e pos) (kSetO i f) := by
  intro A env s σ o aA X fl σ' he hA fi hF Q E h
  obtain ⟨⟨k, ds⟩, ho, hF⟩ := obind hF
  split at hF
  · rename_i hki
    obtain ⟨d, hd, hF⟩ := obind hF
    split at hF
    · rename_i hfl
      cases hF
      have es := ownL_some ho
      rw [es] at fi
      obtain ⟨a, m, cm, y, vs, rfl, hn, h1, h2, h3, h4, h5, hn', hx'⟩ := fi.look
      refine wpAny_Assign_Name (hf A env s _ aA _ m cm d he hA.rm fi.inv.glo hx' hn' hd _ _ fun v h₁ tk₁ r₁ k₁ => ?_) (hs env)
      have fi₁ := fi.pure (tk := tk₁) k₁
      refine store_ok ok he fi₁ hN hi hk (fun k' z e => by cases e; simpa using hki) (flat_rel r₁ hfl) fun s₂ st₂ fi₂ => h _ _ _ _ _ .next ((SStep.of (GStep.pure k₁)).trans st₂) ?_
      rw [es]; exact fi₂
    · cases hF
  · cases hF
end
end Mine
end

section
open PySem PySem.Calls PyProof.Rows
set_option maxRecDepth 100000
namespace Mine
section
variable {prog : Program} {w : World} {c : Cfg} {env : Env} {sc : List (Str × NameKind)} {N : List Str} {o aA aA' o' : Option Addr} {X X' : Addr → Prop} {h h' : Heap} {ρ : List DV} {m cm : Str → Option Value} {A : Around} {s : Shared}
theorem FI.turned {k : Nat} {ds ds' : List DV} {air : Air} {a : Addr} {vs : List Value} {tk : Nat} (ok : CfgOK c) (fi : FI c env N s ⟨ρ, some (k, .lst ds), air⟩ (some a) aA X) (hs : Heap.SameBut a s.heap h') (pl : h'.PlainList a vs.toArray) (hz : vs.length ≤ sizeB) (rl : RelL s.heap X aA vs ds') :
    SStep c env (some a) aA X s.heap (some a) aA X h' ∧ FI c env N { s with heap := h', toks := tk } ⟨ρ, some (k, .lst ds'), air⟩ (some a) aA X := by
  obtain ⟨m, cm, n, q⟩ := fi.nm
  obtain ⟨x, vs₀, h1, h2, _, _, _⟩ := q
  obtain ⟨q1, q2, q3⟩ := fi.fr.mu a (.inr (.inr rfl))
  have alive : ∃ ob, h'.get? a = some ob := let ⟨z, e⟩ := pl; ⟨_, e⟩
  have g := fi.gi.same (tk := tk) ok q3 q2 q1 hs alive
  have hk : ∀ b o, s.heap.get? b = some o → ¬ X b → h'.get? b = some o := fun b o e nx => (hs.2 b fun q => nx (q ▸ q2)).trans e
  have off := fi.fr.offO a rfl
  refine ⟨⟨fun b ob e _ hf => (hs.2 b fun q => hf (.inr (.inr (q ▸ rfl)))).trans e, fun b ob e => ?_, fun _ _ _ e => .inl e, fun _ _ _ e => e, .inl rfl, fun _ e => .inl e⟩, g.inv, g.xb, g.air, fi.fr, m, cm, ⟨n.ns.sameBut hs (Ne.symm off.1), fun x b e => (n.cell x b e).sameBut hs fun q => off.2 x (q ▸ e), fun j d hj ne => ?_⟩, x, vs, h1, h2, pl, hz, rl.mono hk (fun _ _ _ n => n) fun _ e => e⟩
  · by_cases q : b = a
    · exact q ▸ alive
    · exact ⟨ob, (hs.2 b q).trans e⟩
  · obtain ⟨y, u, hy, hu, r⟩ := n.val j d hj ne
    exact ⟨y, u, hy, hu, r.mono hk (fun _ _ _ n => n) fun _ e => e⟩
theorem RelL.set : ∀ {vs : List Value} {ds : List DV} {v : Value} {d : DV} (i : Nat), RelL h X aA vs ds → Rel h X aA v d → RelL h X aA (vs.set i v) (ds.set i d)
  | _, _, _, _, _, .nil, _ => .nil
  | _, _, _, _, 0, .cons _ rs, r => .cons r rs
  | _, _, _, _, i + 1, .cons q rs, r => .cons q (rs.set i r)
theorem own_name {x : Str} {pos : Pos} {a : Addr} (he : EnvOk env sc) (n : Nm env N s.heap X aA ρ m cm) (hv : valOf env m cm x = some (.ref a)) (hd : (x == ("__classdict__" : Str)) = false) (hd' : (x == ("__debug__" : Str)) = false) {Q : Value → Shared → Prop} {E : Value → Shared → Prop} (h : Q (.ref a) s) :
    wpAny (model prog w) A (eval (.Name x pos) env) Q E s := wpAny_Name (load_val he.kind n.ns n.cell hv hd h) hd'
noncomputable def kPut (k : Nat) (f g : List DV → Option DV) : SF := fun σ => (ownL σ).bind fun q => if q.1 == k then (f σ.ρ).bind fun d => (g σ.ρ).bind fun i => match i with
  | .int j => if 0 ≤ j ∧ j < q.2.length then some (.next, { ρ := σ.ρ, own := some (k, .lst (q.2.set j.toNat d)), air := σ.air }) else none
  | _ => none
  else none
theorem sx_put {n k : Nat} {x : Str} {px ps pos : Pos} {e i : Expr} {f g : List DV → Option DV} (ok : CfgOK c) (hf : SE prog w c sc N e f) (hg : SE prog w c sc N i g) (hi : N[k]? = some x)
    (hd : (x == ("__classdict__" : Str)) = false := by decide +kernel) (hd' : (x == ("__debug__" : Str)) = false := by decide +kernel) (hs : ∀ env, swapsWith e (some (.Subscript (.Name x px) i ps)) pos.line env = pure false := by intro _; rfl) : SX prog w c sc N n (.Assign [.Subscript (.Name x px) i ps] e pos) (kPut k f g) := by
  intro A env s σ o aA X fl σ' he hA fi hF Q E h
  obtain ⟨⟨k', ds⟩, ho, hF⟩ := obind hF
  split at hF
  · rename_i hk
    obtain ⟨d, hdd, hF⟩ := obind hF
    obtain ⟨iv, hiv, hF⟩ := obind hF
    have hk : k' = k := by simpa using hk
    subst hk
    split at hF
    · rename_i j
      split at hF
      · rename_i hj
        cases hF
        have es := ownL_some ho
        generalize hρ : σ.ρ = ρ at *
        generalize hα : σ.air = air at *
        subst es
        obtain ⟨a, m, cm, y, vs, rfl, hn, h1, h2, h3, h4, h5, _, _⟩ := fi.look
        rw [hi] at h1; cases h1
        refine wpAny_Assign_Subscript (hf A env s X aA ρ m cm d he hA.rm fi.inv.glo fi.xb hn hdd _ _ fun v₁ h₁ tk₁ r₁ k₁ => ?_) (hs env)
        have fi₁ := fi.pure (tk := tk₁) k₁
        refine own_name he (hn.keeps k₁) h2 hd hd' ?_
        refine hg A env _ X aA ρ m cm _ he hA.rm fi₁.inv.glo fi₁.xb (hn.keeps k₁) hiv _ _ fun v₂ h₂ tk₂ r₂ k₂ => ?_
        have fi₂ := fi₁.pure (tk := tk₂) k₂
        cases r₂ with
        | int _ t =>
          have hlen := h5.length
          have hz : sizeB = 1048576 := rfl
          have hj2 : j < (ds.length : Int) := hj.2
          refine setItem_plain (items := vs.toArray) (h3.at fun o e => k₂ _ o (k₁ _ o e)) hj.1 (by lia) (by simp; lia) fun h' pl' hs' => ?_
          obtain ⟨st, fi₃⟩ := fi₂.turned (h' := h') (vs := vs.set j.toNat v₁) (tk := tk₂) ok hs' (by simpa using pl') (by simpa using h4) (((h5.keeps k₁).keeps k₂).set j.toNat (r₁.keeps k₂))
          exact h _ _ _ _ _ .next (((SStep.of (GStep.pure k₁)).trans (SStep.of (GStep.pure k₂))).trans st) fi₃
      · cases hF
    · cases hF
  · cases hF
noncomputable def kPush (k : Nat) (f : List DV → Air → Option (DV × Air)) : SF := fun σ => (ownL σ).bind fun q => if q.1 == k then (f σ.ρ σ.air).bind fun p => if q.2.length + 1 ≤ sizeB then some (.next, { ρ := σ.ρ, own := some (k, .lst (q.2 ++ [p.1])), air := p.2 }) else none else none
noncomputable def kExt (k : Nat) (f : List DV → Air → Option (DV × Air)) : SF := fun σ => (ownL σ).bind fun q => if q.1 == k then (f σ.ρ σ.air).bind fun p => match p.1 with
  | .lst es => if q.2.length + es.length ≤ sizeB then some (.next, { ρ := σ.ρ, own := some (k, .lst (q.2 ++ es)), air := p.2 }) else none
  | _ => none
  else none
theorem sx_push {n k : Nat} {x : Str} {px apos cpos pos : Pos} {e : Expr} {f : List DV → Air → Option (DV × Air)} (ok : CfgOK c) (hf : GE prog w c sc N n e f) (hi : N[k]? = some x)
    (hd : (x == ("__classdict__" : Str)) = false := by decide +kernel) (hd' : (x == ("__debug__" : Str)) = false := by decide +kernel) (hs : ∀ env, swapsWith (.Call (.Attribute (.Name x px) "append" apos) [e] [] cpos) none pos.line env = pure false := by intro _; rfl)
    (hline : (apos.endLine == cpos.line) = true := by rfl) (hform : ∀ env, methodCallForm ([e].length + ([] : List Keyword).length) (backTo cpos (starEach [e] env)) [] = true := by intro _; rfl)
    (hst : ∀ env, starEach [e] env = (false, eval e env) :: starEach [] env := by intro _; rfl) :
    SX prog w c sc N n (.Expr (.Call (.Attribute (.Name x px) "append" apos) [e] [] cpos) pos) (kPush k f) := by
  intro A env s σ o aA X fl σ' he hA fi hF Q E h
  obtain ⟨⟨k', ds⟩, ho, hF⟩ := obind hF
  split at hF
  · rename_i hk
    obtain ⟨⟨d, α'⟩, hdd, hF⟩ := obind hF
    have hk : k' = k := by simpa using hk
    subst hk
    split at hF
    · rename_i hlen'
      cases hF
      have es := ownL_some ho
      generalize hρ : σ.ρ = ρ at *
      generalize hα : σ.air = air at *
      subst es
      obtain ⟨a, m, cm, y, vs, rfl, hn, h1, h2, h3, h4, h5, _, _⟩ := fi.look
      rw [hi] at h1; cases h1
      refine wpAny_Expr_any ?_ (interactive_fn he) (hs env)
      refine method_raw rfl (hform env) hline (own_name he hn h2 hd hd' fun pl => ?_)
      obtain ⟨z, hz⟩ := id h3
      refine getMethod_list_of F.slot_list_append F.type_list_append ⟨_, hz, rfl, _, rfl⟩ ⟨_, hz, rfl⟩ ?_
      refine PyProof.Rows.callWith_method1 (wpAny_items_cons ?_ (hst _)) (hst _) rfl
      refine hf A env s X aA air ρ m cm d α' he hA fi.gi fi.offs hn hdd _ _ fun v₁ s₁ aA₁ X₁ r₁ st₁ g₁ => wpAny_items_nil ?_
      have fi₁ := fi.gstep st₁ g₁
      obtain ⟨a', m₁, cm₁, y₁, vs₁, e₁, hn₁, p1, p2, p3, p4, p5, _, _⟩ := fi₁.look
      cases e₁
      have hl1 := p5.length
      have hz : sizeB = 1048576 := rfl
      have hl : ds.length + 1 ≤ sizeB := hlen'
      refine wpAny_list_append_plain p3 (fun h' pl' hs' => ?_) (by simp; exact lt_sizeLine (by lia))
      obtain ⟨st, fi₃⟩ := fi₁.turned (h' := h') (vs := vs₁ ++ [v₁]) (tk := s₁.toks) ok hs' (by simpa using pl') (by simp; lia) (p5.append (.cons r₁ .nil))
      exact h _ _ _ _ _ .next ((SStep.of st₁).trans st) fi₃
    · cases hF
  · cases hF
theorem sx_ext {n k : Nat} {x : Str} {px apos cpos pos : Pos} {e : Expr} {f : List DV → Air → Option (DV × Air)} (ok : CfgOK c) (hf : GE prog w c sc N n e f) (hi : N[k]? = some x)
    (hd : (x == ("__classdict__" : Str)) = false := by decide +kernel) (hd' : (x == ("__debug__" : Str)) = false := by decide +kernel) (hs : ∀ env, swapsWith (.Call (.Attribute (.Name x px) "extend" apos) [e] [] cpos) none pos.line env = pure false := by intro _; rfl)
    (hline : (apos.endLine == cpos.line) = true := by rfl) (hform : ∀ env, methodCallForm ([e].length + ([] : List Keyword).length) (backTo cpos (starEach [e] env)) [] = true := by intro _; rfl)
    (hst : ∀ env, starEach [e] env = (false, eval e env) :: starEach [] env := by intro _; rfl) :
    SX prog w c sc N n (.Expr (.Call (.Attribute (.Name x px) "extend" apos) [e] [] cpos) pos) (kExt k f) := by
  intro A env s σ o aA X fl σ' he hA fi hF Q E h
  obtain ⟨⟨k', ds⟩, ho, hF⟩ := obind hF
  split at hF
  · rename_i hk
    obtain ⟨⟨d, α'⟩, hdd, hF⟩ := obind hF
    have hk : k' = k := by simpa using hk
    subst hk
    have hF' := hF
    cases d with
    | lst es =>
      simp only at hF'
      split at hF'
      · rename_i hlen'
        cases hF'
        have es' := ownL_some ho
        generalize hρ : σ.ρ = ρ at *
        generalize hα : σ.air = air at *
        subst es'
        obtain ⟨a, m, cm, y, vs, rfl, hn, h1, h2, h3, h4, h5, _, _⟩ := fi.look
        rw [hi] at h1; cases h1
        refine wpAny_Expr_any ?_ (interactive_fn he) (hs env)
        refine method_raw rfl (hform env) hline (own_name he hn h2 hd hd' fun pl => ?_)
        obtain ⟨z, hz⟩ := id h3
        refine getMethod_list_of F.slot_list_extend F.type_list_extend ⟨_, hz, rfl, _, rfl⟩ ⟨_, hz, rfl⟩ ?_
        refine PyProof.Rows.callWith_method1 (wpAny_items_cons ?_ (hst _)) (hst _) rfl
        refine hf A env s X aA air ρ m cm _ α' he hA fi.gi fi.offs hn hdd _ _ fun v₁ s₁ aA₁ X₁ r₁ st₁ g₁ => wpAny_items_nil ?_
        have fi₁ := fi.gstep st₁ g₁
        obtain ⟨a', m₁, cm₁, y₁, vs₁, e₁, hn₁, p1, p2, p3, p4, p5, _, _⟩ := fi₁.look
        cases e₁
        have hl1 := p5.length
        have hzB : sizeB = 1048576 := rfl
        have hl : ds.length + es.length ≤ sizeB := hlen'
        cases r₁ with
        | @lst b ws _ nb pb zb rb =>
          obtain ⟨z₁, hz₁⟩ := id p3
          obtain ⟨z₂, hz₂⟩ := id pb
          have hl2 := rb.length
          have hsz : vs₁.toArray.size + ws.toArray.size ≤ sizeLine := by simp; exact lt_sizeLine (by lia)
          refine call_meets PySem.F.slot_list_extend ⟨_, hz₁, rfl⟩ PySem.F.entry_list_extend (PySem.F.args_list_extend_2 _ _) (AutoSeq1.list_extend_list_list_0 a vs₁.toArray z₁ b ws.toArray z₂ (extend_door hsz) (Nat.le_trans (Nat.le_add_right _ _) hsz)) ⟨hz₁, hz₂, ?_⟩
          obtain ⟨st, fi₃⟩ := fi₁.turned (h' := s₁.heap.update a (Obj.mapSeq fun x => x ++ ws.toArray)) (vs := vs₁ ++ ws) (tk := s₁.toks) ok (Heap.SameBut.update ..) ⟨_, by rw [← List.append_toArray]; exact Heap.get?_update_self _ hz₁ rfl⟩ (by simp; lia) (p5.append rb)
          exact h _ _ _ _ _ .next ((SStep.of st₁).trans st) fi₃
      · cases hF'
    | _ => cases hF'
  · cases hF
end
end Mine
end

section
open PySem PySem.Calls PyProof.Rows
set_option maxRecDepth 100000
namespace Mine
section
variable {prog : Program} {w : World} {c : Cfg} {env : Env} {sc : List (Str × NameKind)} {N : List Str} {o aA aA' o' : Option Addr} {X X' : Addr → Prop} {h h' : Heap} {ρ : List DV} {m cm : Str → Option Value} {A : Around} {s : Shared}
theorem Inv.ext (ok : CfgOK c) {tk : Nat} {I : Addr} (i : Inv c s) (ha : c.h₁.get? I = none) (hk : ∀ b ob, b ≠ I → s.heap.get? b = some ob → h'.get? b = some ob) : Inv c { s with heap := h', toks := tk } := by
  have ne : ∀ b ob, c.h₁.get? b = some ob → b ≠ I := fun b ob e q => by rw [q, ha] at e; cases e
  have nn : ∀ {b : Addr} {m : Str → Option Value}, c.h₁.Ns b m → b ≠ I := fun n => let ⟨ob, _, _, e, _⟩ := n; ne _ ob e
  have tab : ∀ {c₀ P : Addr}, (∃ ob, c.h₁.get? c₀ = some ob) → (∃ ob, c.h₁.get? P = some ob) → Tab c₀ P s.heap → Tab c₀ P h' := by
    rintro c₀ P ⟨q1, e1⟩ ⟨q2, e2⟩ ⟨ps, x, y⟩
    have k1 := fun ob => hk c₀ ob (ne _ _ e1)
    have k2 := fun ob => hk P ob (ne _ _ e2)
    obtain ⟨o, vs, file, tf, flags, tg, inF, text, tt, op, r1, r2, r3, r4, r5, r6, r7, r8, r9, r10, r11⟩ := x
    obtain ⟨⟨oc, vc, q1, q2⟩, q3⟩ := y
    exact ⟨ps, ⟨o, vs, file, tf, flags, tg, inF, text, tt, op, k1 _ r1, r2, r3, r4, r5, r6, r7, k2 _ r8, r9, r10, r11⟩, ⟨oc, vc, k1 _ q1, q2⟩, k2 _ q3⟩
  refine ⟨⟨i.glo.g.at' fun ob => hk _ ob (nn ok.g), i.glo.b.at' fun ob => hk _ ob (nn ok.b), ?_, fun b ob e n₁ n₂ => hk b ob (ne b ob e) (i.glo.keep b ob e n₁ n₂)⟩, ⟨fun b ob e => ?_, fun b ob e => ?_⟩, i.os, i.gens, tab ok.c₁ ok.p₁ i.t₁, tab ok.c₂ ok.p₂ i.t₂⟩
  · obtain ⟨m, hn, hm⟩ := i.glo.lim
    obtain ⟨m', hn', _⟩ := ok.lim
    exact ⟨m, hn.at' fun ob => hk _ ob (nn hn'), hm⟩
  · rcases i.old.old b ob e with x | ⟨t, hc, vs, more, hv, x⟩ | ⟨rfl, hc, ⟨o', es, n, ho', r⟩, z⟩
    · exact .inl (hk _ _ (ne b ob e) x)
    · exact .inr (.inl ⟨t, hc, vs, more, hv, hk _ _ (ne b ob e) x⟩)
    · have e' := hk _ _ (ne _ ob e) ho'
      exact .inr (.inr ⟨rfl, hc, ⟨o', es, n, e', r⟩, fun key => by rw [OldK.staticOf_congr (e'.trans ho'.symm) key]; exact z key⟩)
  · obtain ⟨o', ho'⟩ := i.old.there b ob e
    exact ⟨o', hk _ _ (ne b ob e) ho'⟩
theorem FI.ext (ok : CfgOK c) {σ : St} {tk : Nat} {I : Addr} (fi : FI c env N s σ o aA X) (hI : X I) (hm : ¬ MutP c aA I) (hf : ¬ Frm env o I) (ha : c.h₁.get? I = none) (hk : ∀ b ob, b ≠ I → s.heap.get? b = some ob → h'.get? b = some ob) (hs : ∀ b, X' b → X b) (hs' : ∀ b, b ≠ I → X b → X' b) (hal : X' I → ∃ ob, h'.get? I = some ob) :
    FI c env N { s with heap := h', toks := tk } σ o aA X' := by
  have kx : ∀ b ob, s.heap.get? b = some ob → ¬ X b → h'.get? b = some ob := fun b ob e nx => hk b ob (fun q => nx (q ▸ hI)) e
  have hx : ∀ b ob, s.heap.get? b = some ob → ¬ X b → ¬ X' b := fun b ob _ nx q => nx (hs b q)
  obtain ⟨m, cm, n, q⟩ := fi.nm
  refine ⟨fi.inv.ext ok ha hk, fun b hb => ?_, fi.air.mono kx (fun a e ob e' => hk a ob (fun q => hm (q ▸ .inr (.inr e))) e') hx fun b e => hs' b fun q => hm (q ▸ .inr (.inr e)),
    ⟨fun b hb => let ⟨q1, q2, q3⟩ := fi.fr.mu b hb; ⟨q1, hs' b (fun q => hf (q ▸ hb)) q2, q3⟩, fun b hb => hs' b (fun q => hm (q ▸ hb)) (fi.fr.mx b hb), fi.fr.apart, fi.fr.offL, fi.fr.offO⟩, m, cm, ⟨n.ns.at' fun ob => hk _ ob fun q => hf (.inl q.symm), fun x b e => let ⟨ob, e1, e2⟩ := n.cell x b e; ⟨ob, hk _ _ (fun q => hf (.inr (.inl ⟨x, q ▸ e⟩))) e1, e2⟩, fun j d hj ne => let ⟨y, u, hy, hu, r⟩ := n.val j d hj ne; ⟨y, u, hy, hu, r.mono kx hx fun _ e => e⟩⟩, ?_⟩
  · by_cases e : b = I
    · exact e ▸ hal (e ▸ hb)
    · obtain ⟨ob, e'⟩ := fi.xb b (hs b hb)
      exact ⟨ob, hk b ob e e'⟩
  · unfold OwnOK at q ⊢
    split at q
    · trivial
    · obtain ⟨x, vs, h1, h2, ⟨z, h3⟩, h4, h5⟩ := q
      exact ⟨x, vs, h1, h2, ⟨z, hk _ _ (fun q => hf (q ▸ .inr (.inr rfl))) h3⟩, h4, h5.mono kx hx fun _ e => e⟩
    · obtain ⟨x, l, k, vs, h1, h2, ⟨ob, h3, h3'⟩, h4, ⟨z, h5⟩, h6, h7⟩ := q
      exact ⟨x, l, k, vs, h1, h2, ⟨ob, hk _ _ (fun q => hf (q ▸ .inr (.inr rfl))) h3, h3'⟩, hx _ _ h5 h4, ⟨z, kx _ _ h5 h4⟩, h6, h7.mono kx hx fun _ e => e⟩
    · exact q
theorem SStep.ext {h₀ : Heap} {o₀ aA₀ : Option Addr} {X₀ : Addr → Prop} {I : Addr} (st : SStep c env o₀ aA₀ X₀ h₀ o aA X h) (hI : h₀.get? I = none) (hk : ∀ b ob, b ≠ I → h.get? b = some ob → h'.get? b = some ob) (hs : ∀ b, X' b → X b) (hs' : ∀ b, b ≠ I → X b → X' b) : SStep c env o₀ aA₀ X₀ h₀ o aA X' h' := by
  have ne : ∀ {b ob}, h₀.get? b = some ob → b ≠ I := fun e q => by rw [q, hI] at e; cases e
  exact ⟨fun b ob e hm hf => hk b ob (ne e) (st.keep b ob e hm hf), fun b ob e => let ⟨ob', e'⟩ := st.there b ob e; ⟨ob', hk b ob' (ne e) e'⟩, fun b ob e q => (st.sub b ob e q).imp (hs' b (ne e)) id, fun b ob e q => st.new b ob e (hs b q), st.air, st.own⟩
variable (prog w c sc N) in
noncomputable def TG (n : Nat) (t : Expr) (T : DV → St → Option St) : Prop :=
  ∀ (A : Around) (env : Env) (s : Shared) (σ : St) (o aA : Option Addr) (X : Addr → Prop) (v : Value) (d : DV) (σ' : St), EnvOk env sc → RmN A n → FI c env N s σ o aA X → Rel s.heap X aA v d → T d σ = some σ' →
    ∀ (Q : Unit → Shared → Prop) (E : Value → Shared → Prop), (∀ s', SStep c env o aA X s.heap o aA X s'.heap → FI c env N s' σ' o aA X → Q () s') → wpAny (model prog w) A (assign t env v) Q E s
variable (prog w c sc N) in
noncomputable def TGL (n : Nat) (ts : List Expr) (T : List DV → St → Option St) : Prop :=
  ∀ (A : Around) (env : Env) (s : Shared) (σ : St) (o aA : Option Addr) (X : Addr → Prop) (vs : List Value) (ds : List DV) (σ' : St), EnvOk env sc → RmN A n → FI c env N s σ o aA X → RelL s.heap X aA vs ds → T ds σ = some σ' →
    ∀ (Q : Unit → Shared → Prop) (E : Value → Shared → Prop), (∀ s', SStep c env o aA X s.heap o aA X s'.heap → FI c env N s' σ' o aA X → Q () s') → wpAny (model prog w) A (assignInOrder (ts.map fun t => assign t env) vs) Q E s
noncomputable def tName (i : Nat) : DV → St → Option St := fun d σ => if ownOff σ i then some { σ with ρ := σ.ρ.set i d } else none
noncomputable def tNil : List DV → St → Option St := fun ds σ => match ds with | [] => some σ | _ => none
noncomputable def tCons (T : DV → St → Option St) (U : List DV → St → Option St) : List DV → St → Option St := fun ds σ => match ds with
  | d :: r => (T d σ).bind (U r)
  | [] => none
noncomputable def tTup (k : Nat) (U : List DV → St → Option St) : DV → St → Option St := fun d σ => match d with
  | .tup ds => if ds.length = k then U ds σ else none
  | _ => none
theorem tg_name {n : Nat} {x : Str} {px : Pos} {i : Nat} (ok : CfgOK c) (hN : N.Nodup) (hi : N[i]? = some x) (hk : sc.lookup x = some .local ∨ sc.lookup x = some .cell) : TG prog w c sc N n (.Name x px) (tName i) := by
  intro A env s σ o aA X v d σ' he hA fi r hT Q E h
  unfold tName at hT
  split at hT
  · rename_i hoff
    cases hT
    exact wpAny_assign_Name (store_ok ok he fi hN hi hk (ownOff_ok hoff) r h)
  · cases hT
theorem tgl_nil {n : Nat} : TGL prog w c sc N n [] tNil := by
  intro A env s σ o aA X vs ds σ' he hA fi r hT Q E h
  cases r with
  | nil => cases hT; exact assignInOrder_nil (h s .refl fi)
  | cons _ _ => cases hT
theorem tgl_cons {n : Nat} {t : Expr} {ts : List Expr} {T : DV → St → Option St} {U : List DV → St → Option St} (ht : TG prog w c sc N n t T) (hu : TGL prog w c sc N n ts U) : TGL prog w c sc N n (t :: ts) (tCons T U) := by
  intro A env s σ o aA X vs ds σ' he hA fi r hT Q E h
  cases r with
  | nil => cases hT
  | @cons v d vs ds r rs =>
    obtain ⟨σ₁, h1, h2⟩ := obind hT
    exact assignInOrder_cons (ht A env s σ o aA X v d σ₁ he hA fi r h1 _ _ fun s₁ st₁ fi₁ => hu A env s₁ σ₁ o aA X vs ds σ' he hA fi₁ (rs.mono (fun b ob e nx => st₁.keep b ob e (fun q => nx (fi.fr.mx b q)) fun q => nx (fi.fr.mu b q).2.1) (fun _ _ _ e => e) fun _ e => e) h2 _ _ fun s₂ st₂ fi₂ => h s₂ (st₁.trans st₂) fi₂)
theorem tg_tup {n : Nat} {ts : List Expr} {x1} {pos : Pos} {k : Nat} {U : List DV → St → Option St} (hu : TGL prog w c sc N n ts U) (hn : ∀ env, (assignEach ts env).length = k := by intro _; rfl) (hstar : ∀ env, (assignEach ts env).findIdx? (·.1) = none := by intro _; rfl) (hm : ∀ env, (assignEach ts env).map (·.2) = ts.map fun t => assign t env := by intro _; rfl) :
    TG prog w c sc N n (.Tuple ts x1 pos) (tTup k U) := by
  intro A env s σ o aA X v d σ' he hA fi r hT Q E h
  unfold tTup at hT
  split at hT
  · split at hT
    · rename_i hlen
      cases r with
      | @tup a vs _ nx it hz rl =>
        have hl := rl.length
        refine wpAny_assign_Tuple hA.handled it ((hn env).trans (by simp; lia)) (hstar env) fun h' hx => ?_
        rw [hm env]
        have kk : ∀ b ob, s.heap.get? b = some ob → h'.get? b = some ob := fun b ob e => hx b ob (Nat.ne_of_lt (Heap.lt_size e)) e
        exact hu A env _ σ o aA X vs _ σ' he hA (fi.pure (tk := s.toks) kk) (rl.keeps kk) hT _ _ fun s₁ st₁ fi₁ => h s₁ ((SStep.of (GStep.pure kk)).trans st₁) fi₁
    · cases hT
  · cases hT
end
end Mine
end

section
open PySem PySem.Calls PyProof.Rows
set_option maxRecDepth 100000
namespace Mine
section
variable {prog : Program} {w : World} {c : Cfg} {env : Env} {sc : List (Str × NameKind)} {N : List Str} {o aA aA' o' : Option Addr} {X X' : Addr → Prop} {h h' : Heap} {ρ : List DV} {m cm : Str → Option Value} {A : Around} {s : Shared}
noncomputable def forGo (T : DV → St → Option St) (F G : SF) : List DV → SF
  | [], σ => G σ
  | d :: r, σ => (T d σ).bind fun σ₁ => (F σ₁).bind fun p => match p.1 with
    | .next => forGo T F G r p.2
    | .brk => some (.next, p.2)
    | .ret e => some (.ret e, p.2)
structure LoopAt (c : Cfg) (env : Env) (N : List Str) (s₁ : Shared) (o₁ aA₁ : Option Addr) (X₁ : Addr → Prop) (I : Addr) (s : Shared) (σ : St) (o aA : Option Addr) (X : Addr → Prop) : Prop where
  fi : FI c env N s σ o aA X
  st : SStep c env o₁ aA₁ X₁ s₁.heap o aA X s.heap
  xi : X I
  mi : ¬ MutP c aA I
  fr : ¬ Frm env o I
theorem for_core {n : Nat} {target : Expr} {body orelse : List Stmt} {T : DV → St → Option St} {F G : SF} {ds : List DV} {s₁ s₂ : Shared} {σ₁ : St} {o₁ aA₁ : Option Addr} {X₁ X₂ : Addr → Prop} {I : Addr} {fp : List Addr} {P : Nat → Value → Prop} {St' : Nat → Heap → Prop} {R : Result → Shared → Prop} {fl : Fl} {σ' : St}
    (ok : CfgOK c) (he : EnvOk env sc) (hA : RmN A n) (ht : TG prog w c sc N n target T) (hb : SS prog w c sc N n body F) (ho : SS prog w c sc N n orelse G) (W : Walks prog w A I fp [I] ds.length P St')
    (hgo : ∀ i (s' : Shared) v (Q' : Unit → Shared → Prop) (E' : Value → Shared → Prop), St' i s'.heap → Q' () s' → wpAny (model prog w) A (letOwnedTupleGo target (.ref I) v) Q' E' s')
    (hal : ∀ i h, St' i h → ∃ ob, h.get? I = some ob) (hI : s₁.heap.get? I = none) (hfp : ∀ b ∈ fp, b = I ∨ (¬ X₁ b ∧ ∃ ob, s₁.heap.get? b = some ob)) (hP : ∀ i v, P i v → ∃ d, ds[i]? = some d ∧ Rel s₁.heap X₁ aA₁ v d)
    (fr₁ : FrameOK c env o₁ aA₁ X₁) (glo : Glo c s₁.heap) (xb₁ : XB s₁.heap X₁) (L₀ : LoopAt c env N s₁ o₁ aA₁ X₁ I s₂ σ₁ o₁ aA₁ X₂) (hst : St' 0 s₂.heap) (hF : forGo T F G ds σ₁ = some (fl, σ'))
    (hR : ∀ f s' o' aA' X', FlR s'.heap X' aA' f fl → SStep c env o₁ aA₁ X₁ s₁.heap o' aA' X' s'.heap → FI c env N s' σ' o' aA' X' → R (.ok f) s') :
    codeAny (model prog w) A (.forLoop target (.ref I) body orelse env) R s₂ := by
  have hI₁ : c.h₁.get? I = none := glo.alive fr₁.mx xb₁ hI
  refine codeAny_forLoop_any (fun k s' => ∃ i σ o aA X, LoopAt c env N s₁ o₁ aA₁ X₁ I s' σ o aA X ∧ St' i s'.heap ∧ i ≤ ds.length ∧ forGo T F G (ds.drop i) σ = some (fl, σ') ∧ k = ds.length + 1 - i) ?_ (ds.length + 1) ⟨0, σ₁, o₁, aA₁, X₂, L₀, hst, Nat.zero_le _, by simpa using hF, rfl⟩
  rintro k s' ⟨i, σ, o, aA, X, L, hs, hi, hgo', rfl⟩
  by_cases hlt : i < ds.length
  · refine W.item i _ _ _ hlt hs fun v h₁ tk₁ hPv hs₁ hk₁ => ?_
    have hk₁' : ∀ b ob, b ≠ I → s'.heap.get? b = some ob → h₁.get? b = some ob := fun b ob ne e => hk₁ b ob (by simpa using ne) e
    have fi₁ := L.fi.ext (tk := tk₁) ok L.xi L.mi L.fr hI₁ hk₁' (fun _ q => q) (fun _ _ q => q) fun _ => hal _ _ hs₁
    have st₁ := L.st.ext hI hk₁' (fun _ q => q) (fun _ _ q => q)
    obtain ⟨d, hd, r⟩ := hP i v hPv
    have e : ds.drop i = d :: ds.drop (i + 1) := by
      rw [List.drop_eq_getElem_cons hlt]
      rw [List.getElem?_eq_getElem hlt] at hd
      cases hd; rfl
    rw [e] at hgo'
    obtain ⟨σ₂, hT, hgo'⟩ := obind hgo'
    obtain ⟨⟨fl₃, σ₃⟩, hB, hgo'⟩ := obind hgo'
    refine hgo (i + 1) _ v _ _ hs₁ ?_
    refine ht A env _ σ o aA X v d σ₂ he hA fi₁ (st₁.rel fr₁ r) hT _ _ fun s₂ st₂ fi₂ => ?_
    refine hb A env s₂ σ₂ o aA X fl₃ σ₃ he hA fi₂ hB _ _ fun f s₃ o₃ aA₃ X₃ r₃ st₃ fi₃ => ?_
    have st₂₃ := st₂.trans st₃
    have all := st₁.trans st₂₃
    obtain ⟨oI, eI⟩ := hal _ _ hs₁
    cases r₃ with
    | next =>
      refine ⟨ds.length + 1 - (i + 1), by lia, i + 1, σ₃, o₃, aA₃, X₃, ⟨fi₃, all, ?_, MutP.still eI st₂₃.air L.mi, ?_⟩, ?_, hlt, hgo', rfl⟩
      · rcases st₂₃.sub I oI eI L.xi with q | q
        · exact q
        · exact absurd (.inr (.inr q)) L.fr
      · rintro (q | q | q)
        · exact L.fr (.inl q)
        · exact L.fr (.inr (.inl q))
        · rcases st₂₃.own I q with q | q
          · exact L.fr (.inr (.inr q))
          · have eI' : h₁.get? I = some oI := eI
            have q' : h₁.get? I = none := q
            rw [eI'] at q'; cases q'
      · refine W.frame _ _ _ hs₁ fun b hb ob e => ?_
        rcases hfp b hb with rfl | ⟨nx, ob', e'⟩
        · exact st₂₃.keep b ob e L.mi L.fr
        · have nX : ¬ X b := fun q => nx (st₁.new b ob' e' q)
          exact st₂₃.keep b ob e (fun q => nX (fi₁.fr.mx b q)) fun q => nX (fi₁.fr.mu b q).2.1
    | brk => cases hgo'; exact hR _ _ _ _ _ .next all fi₃
    | ret r₃ => cases hgo'; exact hR _ _ _ _ _ (.ret r₃) all fi₃
  · have hin : i = ds.length := by lia
    subst hin
    refine W.done _ _ _ hs fun h₁ tk₁ hk₁ => ?_
    have hk₁' : ∀ b ob, b ≠ I → s'.heap.get? b = some ob → h₁.get? b = some ob := fun b ob ne e => hk₁ b ob (by simpa using ne) e
    have fi₁ := L.fi.ext (X' := fun b => X b ∧ b ≠ I) (tk := tk₁) ok L.xi L.mi L.fr hI₁ hk₁' (fun _ q => q.1) (fun _ ne q => ⟨q, ne⟩) fun q => absurd rfl q.2
    have st₁ := L.st.ext (X' := fun b => X b ∧ b ≠ I) hI hk₁' (fun _ q => q.1) (fun _ ne q => ⟨q, ne⟩)
    rw [List.drop_length] at hgo'
    exact ho A env _ σ o aA _ fl σ' he hA fi₁ hgo' _ _ fun f s₃ o₃ aA₃ X₃ r₃ st₃ fi₃ => hR f s₃ o₃ aA₃ X₃ r₃ (st₁.trans st₃) fi₃
noncomputable def kFor (T : DV → St → Option St) (f : List DV → Air → Option (DV × Air)) (F G : SF) : SF := fun σ => (f σ.ρ σ.air).bind fun p => (itemsD p.1).bind fun ds => forGo T F G ds { σ with air := p.2 }
theorem iter_all {A : Around} {s : Shared} {X : Addr → Prop} {aA : Option Addr} {v : Value} {d : DV} {ds : List DV} {tgt : Expr} {Q : Value → Shared → Prop} {E : Value → Shared → Prop} (hh : A.handled = none) (r : Rel s.heap X aA v d) (hd : itemsD d = some ds)
    (hl : isLst d = true ∨ ∀ it v, letOwnedTupleGo tgt it v = pure ())
    (h : ∀ (h' : Heap) (fp : List Addr) (P : Nat → Value → Prop) (St : Nat → Heap → Prop), h'.objs.size = s.heap.objs.size + 1 → (∀ b o, s.heap.get? b = some o → h'.get? b = some o) → Walks prog w A s.heap.objs.size fp [s.heap.objs.size] ds.length P St → St 0 h' →
      (∀ b ∈ fp, b = s.heap.objs.size ∨ (¬ X b ∧ ∃ o, s.heap.get? b = some o)) → (∀ i v, P i v → ∃ d, ds[i]? = some d ∧ Rel s.heap X aA v d) → ds.length ≤ sizeB →
      (∀ i (s' : Shared) v (Q' : Unit → Shared → Prop) (E' : Value → Shared → Prop), St i s'.heap → Q' () s' → wpAny (model prog w) A (letOwnedTupleGo tgt (.ref s.heap.objs.size) v) Q' E' s') →
      (∀ i h, St i h → ∃ ob, h.get? s.heap.objs.size = some ob) → Q (.ref s.heap.objs.size) { s with heap := h' }) : wpAny (model prog w) A (pyIter v) Q E s := by
  unfold itemsD at hd
  split at hd
  · cases hd
    cases r with
    | @lst a vs _ n1 l1 z1 q1 =>
      have hol : ∃ o, s.heap.get? a = some o := let ⟨_, e⟩ := l1; ⟨_, e⟩
      have hne : a ≠ s.heap.objs.size := let ⟨_, e⟩ := hol; Nat.ne_of_lt (Heap.lt_size e)
      refine wpAny_pyIter_list l1.isList ?_
      have W := Walks.list (prog := prog) (w := w) hh s.heap.objs.size a hne vs.toArray
      have hlen : vs.toArray.size = ds.length := by simp [q1.length]
      rw [hlen] at W
      refine h _ _ _ _ (Heap.size_push ..) (fun b o e => Heap.get?_push_of_some _ e) W ⟨⟨_, Heap.get?_push_size _ rfl, rfl, rfl⟩, l1.isList.at fun o e => Heap.get?_push_of_some _ e⟩ ?_ ?_ (q1.length ▸ z1) (fun i s' v Q' E' st hq => letGo_listiter st.1 hq) (fun i h st => let ⟨ob, e, _⟩ := st.1; ⟨ob, e⟩)
      · intro b hb
        rcases List.mem_cons.mp hb with e | hb
        · exact .inl e
        · rw [List.mem_singleton.mp hb]; exact .inr ⟨n1, hol⟩
      · intro i v hv
        exact q1.get' (by simpa using hv)
  · rename_i a₀ k₀ n₀
    cases hd
    have hl := hl.resolve_left (by simp [isLst])
    cases r with
    | rng n1 hi hs hn hl' =>
      refine wpAny_pyIter_range hi hs ?_
      have W := (Walks.range (prog := prog) (w := w) hh s.heap.objs.size a₀ k₀ n₀).bound
      have hlen : ((rngInts a₀ k₀ n₀).map DV.int).length = n₀ := by simp [rngInts]
      rw [← hlen] at W
      refine h _ _ _ _ (Heap.size_push ..) (fun b o e => Heap.get?_push_of_some _ e) W ?_ (fun b hb => .inl (List.mem_singleton.mp hb)) ?_ (by rw [hlen]; exact hl') (fun i s' v Q' E' st hq => wpAny_of_eq (hl _ _) hq) (fun i h st => ⟨_, st⟩)
      · show IsRangeIter _ _ _ _ _
        rw [hn, hlen]
        simpa using Heap.get?_push_size _ rfl
      · rintro i v ⟨hi, t, rfl⟩
        rw [hlen] at hi
        exact ⟨.int (a₀ + i * k₀), by simp [rngInts, hi], .int _ _⟩
  · cases hd
theorem sx_for {n : Nat} {target iter : Expr} {body orelse : List Stmt} {pos : Pos} {T : DV → St → Option St} {f : List DV → Air → Option (DV × Air)} {F G : SF} (ok : CfgOK c) (hf : GE prog w c sc N n iter f) (ht : TG prog w c sc N n target T) (hb : SS prog w c sc N n body F) (ho : SS prog w c sc N n orelse G)
    (hl : (∀ ρ α p, f ρ α = some p → isLst p.1 = true) ∨ ∀ it v, letOwnedTupleGo target it v = pure ()) (hs : ∀ env x, foldedSetIterable iter env x = pure x := by intro _ _; rfl) : SX prog w c sc N n (.For target iter body orelse pos) (kFor T f F G) := by
  intro A env s σ o aA X fl σ' he hA fi hF Q E h
  obtain ⟨⟨d, α₁⟩, hd, hF⟩ := obind hF
  obtain ⟨ds, hds, hF⟩ := obind hF
  obtain ⟨m, cm, hn, _⟩ := fi.nm
  refine wpAny_For (hf A env s X aA σ.air σ.ρ m cm d α₁ he hA fi.gi fi.offs hn hd _ _ fun v s₁ aA₁ X₁ r₁ st₁ g₁ => ?_) (hs env)
  have fi₁ := fi.gstep st₁ g₁
  refine iter_all (tgt := target) hA.handled r₁ hds (hl.imp (fun q => q _ _ _ hd) id) fun h₂ fp P St' hsz k₂ W hst hfp hP hle hgo hal => ?_
  have hI : s₁.heap.get? s₁.heap.objs.size = none := by
    cases q : s₁.heap.get? s₁.heap.objs.size with
    | none => rfl
    | some ob => exact absurd (Heap.lt_size q) (Nat.lt_irrefl _)
  let X₂ : Addr → Prop := fun b => X₁ b ∨ b = s₁.heap.objs.size
  have ne : ∀ {b ob}, s₁.heap.get? b = some ob → b ≠ s₁.heap.objs.size := fun e q => by rw [q, hI] at e; cases e
  have gs : GStep c aA₁ X₁ s₁.heap aA₁ X₂ h₂ := ⟨fun b ob e _ => k₂ b ob e, fun b ob e => ⟨ob, k₂ b ob e⟩, fun b e => .inl e, fun b ob e q => q.elim id fun q => absurd q (ne e), .inl rfl⟩
  have g₂ : GI c { s₁ with heap := h₂ } X₂ aA₁ α₁ := by
    refine ⟨fi₁.inv.keeps (tk := s₁.toks) k₂, fun b q => ?_, ?_, fun b q => .inl (fi₁.fr.mx b q)⟩
    · rcases q with q | rfl
      · obtain ⟨ob, e⟩ := fi₁.xb b q; exact ⟨ob, k₂ b ob e⟩
      · exact hal _ _ hst
    · exact fi₁.air.mono (fun b ob e _ => k₂ b ob e) (fun _ _ ob e => k₂ _ ob e) (fun b ob e nb q => q.elim nb fun q => absurd q (ne e)) fun b _ q => .inl q
  have fi₂ := fi₁.gstep gs g₂
  have nX : ¬ X₁ s₁.heap.objs.size := fun q => let ⟨ob, e⟩ := fi₁.xb _ q; ne e rfl
  refine for_core (St' := St') (T := T) (F := F) (G := G) ok he hA ht hb ho W hgo hal hI hfp hP fi₁.fr fi₁.inv.glo fi₁.xb ⟨fi₂, SStep.of gs, .inr rfl, fun q => nX (fi₁.fr.mx _ q), fun q => nX (fi₁.fr.mu _ q).2.1⟩ hst hF fun f s' o' aA' X' r st fi' => ?_
  exact h f s' o' aA' X' r ((SStep.of st₁).trans st) fi'
noncomputable def whGo (t : List DV → Air → Option (Bool × Air)) (F : SF) : Nat → SF
  | 0, _ => none
  | k + 1, σ => (t σ.ρ σ.air).bind fun p => if p.1 then (F { σ with air := p.2 }).bind fun q => match q.1 with
      | .next => whGo t F k q.2
      | .brk => some (.next, q.2)
      | .ret e => some (.ret e, q.2)
    else some (.next, { σ with air := p.2 })
theorem sx_while {n : Nat} {t : Expr} {body : List Stmt} {pos : Pos} {ft : List DV → Air → Option (Bool × Air)} {F : SF} (k : Nat) (ht : GT prog w c sc N n t ft) (hb : SS prog w c sc N n body F) : SX prog w c sc N n (.While t body [] pos) (whGo ft F k) := by
  intro A env s σ o aA X fl σ' he hA fi hF Q E h
  refine wpAny_While (codeAny_whileLoop (fun k s' => ∃ σ₁ o₁ aA₁ X₁, SStep c env o aA X s.heap o₁ aA₁ X₁ s'.heap ∧ FI c env N s' σ₁ o₁ aA₁ X₁ ∧ whGo ft F k σ₁ = some (fl, σ')) ?_ k ⟨σ, o, aA, X, .refl, fi, hF⟩)
  rintro k s' ⟨σ₁, o₁, aA₁, X₁, st₁, fi₁, hF⟩
  cases k with
  | zero => cases hF
  | succ k =>
    obtain ⟨⟨b, α₂⟩, hb', hF⟩ := obind hF
    obtain ⟨m, cm, hn, _⟩ := fi₁.nm
    refine ht A env s' X₁ aA₁ σ₁.air σ₁.ρ m cm b α₂ he hA fi₁.gi fi₁.offs hn hb' _ _ fun s₂ aA₂ X₂ st₂ g₂ => ?_
    have fi₂ := fi₁.gstep st₂ g₂
    cases b with
    | true =>
      simp only [if_true] at hF ⊢
      obtain ⟨⟨fl₃, σ₃⟩, hB, hF⟩ := obind hF
      refine hb A env s₂ _ o₁ aA₂ X₂ fl₃ σ₃ he hA fi₂ hB _ _ fun f s₃ o₃ aA₃ X₃ r₃ st₃ fi₃ => ?_
      have all := (st₁.trans (SStep.of st₂)).trans st₃
      cases r₃ with
      | next => exact ⟨k, Nat.lt_succ_self _, σ₃, o₃, aA₃, X₃, all, fi₃, hF⟩
      | brk => cases hF; exact h _ _ _ _ _ .next all fi₃
      | ret r₃ => cases hF; exact h _ _ _ _ _ (.ret r₃) all fi₃
    | false =>
      simp only [Bool.false_eq_true, if_false] at hF ⊢
      cases hF
      exact wpAny_execs_nil (h _ _ _ _ _ .next (st₁.trans (SStep.of st₂)) fi₂)
end
end Mine
end

section
open PySem PySem.Calls PyProof.Rows
set_option maxRecDepth 100000
namespace Mine
section
variable {prog : Program} {w : World} {c : Cfg} {env : Env} {sc : List (Str × NameKind)} {N : List Str} {o aA aA' o' : Option Addr} {X X' : Addr → Prop} {h h' : Heap} {ρ : List DV} {m cm : Str → Option Value} {A : Around} {s : Shared}
noncomputable def kDead : SF := fun _ => none
theorem sx_dead {n : Nat} {st : Stmt} : SX prog w c sc N n st kDead := by
  intro A env s σ o aA X fl σ' he hA fi hF; cases hF
theorem ss_dead {n : Nat} {st : List Stmt} : SS prog w c sc N n st kDead := by
  intro A env s σ o aA X fl σ' he hA fi hF; cases hF
theorem FI.locals (ok : CfgOK c) {σ : St} {tk i : Nat} {y : Str} {v : Value} {d : DV} (he : EnvOk env sc) (fi : FI c env N s σ o aA X) (hn : Nm env N s.heap X aA σ.ρ m cm) (hq : OwnOK env N s.heap X aA m cm σ.own o) (hN : N.Nodup) (hi : N[i]? = some y) (hy : sc.lookup y = some .local) (hown : ∀ k z, σ.own = some (k, z) → k ≠ i)
    (hk : ∀ b ob, b ≠ env.locals → s.heap.get? b = some ob → h'.get? b = some ob) (hns : h'.Ns env.locals fun z => if z = y then some v else m z) (r : Rel h' X aA v d) :
    SStep c env o aA X s.heap o aA X h' ∧ FI c env N { s with heap := h', toks := tk } { σ with ρ := σ.ρ.set i d } o aA X := by
  obtain ⟨h1, h2, h3, h4⟩ := fi.fr.offs (.inl rfl)
  have alive : ∃ ob, h'.get? env.locals = some ob := let ⟨ob, _, _, e, _⟩ := hns; ⟨ob, e⟩
  have kx : ∀ b ob, s.heap.get? b = some ob → ¬ X b → h'.get? b = some ob := fun b ob e nx => hk b ob (fun q => nx (q ▸ h2)) e
  have hx : ∀ b ob, s.heap.get? b = some ob → ¬ X b → ¬ X b := fun _ _ _ n => n
  have hk' : env.kindOf y = some .local := (he.kindOf y).trans hy
  have vy : valOf env (fun z => if z = y then some v else m z) cm y = some v := by unfold valOf; rw [hk']; simp
  have vz : ∀ z, z ≠ y → valOf env (fun z => if z = y then some v else m z) cm z = valOf env m cm z := fun z hz => by unfold valOf; simp only [if_neg hz]
  refine ⟨⟨fun b ob e _ hf => hk b ob (fun q => hf (.inl q)) e, fun b ob e => ?_, fun _ _ _ e => .inl e, fun _ _ _ e => e, .inl rfl, fun _ e => .inl e⟩, fi.inv.ext ok h3 hk, fun b hb => ?_, fi.air.mono kx (fun a e ob e' => hk a ob (fun q => h1 (q ▸ .inr (.inr e))) e') hx fun _ _ e => e, fi.fr, _, cm,
    ⟨hns, fun x b e => let ⟨ob, e1, e2⟩ := hn.cell x b e; ⟨ob, hk _ _ (Ne.symm (fi.fr.offL x b e)) e1, e2⟩, fun j e hj hne => ?_⟩, ?_⟩
  · by_cases q : b = env.locals
    · exact q ▸ alive
    · exact ⟨ob, hk b ob q e⟩
  · by_cases q : b = env.locals
    · exact q ▸ alive
    · obtain ⟨ob, e⟩ := fi.xb b hb
      exact ⟨ob, hk b ob q e⟩
  · have hj : (σ.ρ.set i d)[j]? = some e := hj
    rw [List.getElem?_set] at hj
    split at hj
    · rename_i hij
      split at hj
      · cases hj; exact ⟨y, v, hij ▸ hi, vy, r⟩
      · cases hj
    · rename_i hij
      obtain ⟨z, u, hz, hu, q⟩ := hn.val j e hj hne
      exact ⟨z, u, hz, (vz z fun q => hij (nodup_idx hN hi (q ▸ hz))).trans hu, q.mono kx hx fun _ e => e⟩
  · show OwnOK env N h' X aA _ cm σ.own o
    unfold OwnOK at hq ⊢
    split at hq
    · trivial
    · rename_i i' ds a ho
      obtain ⟨z, vs, q1, q2, ⟨zz, q3⟩, q4, q5⟩ := hq
      exact ⟨z, vs, q1, (vz z fun e => hown _ _ ho (nodup_idx hN q1 (e ▸ hi))).trans q2, ⟨zz, hk _ _ (h4 _ rfl) q3⟩, q4, q5.mono kx hx fun _ e => e⟩
    · rename_i i' ds a ho
      obtain ⟨z, l, k, vs, q1, q2, ⟨ob, q3, q3'⟩, q4, ⟨zz, q5⟩, q6, q7⟩ := hq
      exact ⟨z, l, k, vs, q1, (vz z fun e => hown _ _ ho (nodup_idx hN q1 (e ▸ hi))).trans q2, ⟨ob, hk _ _ (h4 _ rfl) q3, q3'⟩, q4, ⟨zz, kx _ _ q5 q4⟩, q6, q7.mono kx hx fun _ e => e⟩
    · exact hq
theorem sx_comp {n i : Nat} {elt iter : Expr} {x y : Str} {px py pos spos : Pos} {ifs : List Expr} {scope : Scope} {j : Nat} {vis : List Nat} {fi fe : List DV → Option DV} {fc : List DV → Option Bool} (okc : CfgOK c) (hN : N.Nodup) (hy : N[i]? = some y) (hky : sc.lookup y = some .local) (ok : CompOk sc N scope x j vis) (hi : SE prog w c sc N iter fi)
    (hc : SI prog w c (relabelN sc scope.names) N ifs fc) (hf : SE prog w c (relabelN sc scope.names) N elt fe) (hsw : ∀ env, EnvOk env sc → swapsWith (.ListComp elt [⟨.Name x px, iter, ifs, 0⟩] scope pos) (some (.Name y py)) spos.line env = pure true) (hs : ∀ env x, foldedSetIterable iter env x = pure x := by intro _ _; rfl) :
    SX prog w c sc N n (.Assign [.Name y py] (.ListComp elt [⟨.Name x px, iter, ifs, 0⟩] scope pos) spos) (kSet i (gP (mComp j vis fi fc fe))) := by
  intro A env s σ o aA X fl σ' he hA fI hF Q E h
  unfold kSet at hF
  split at hF
  · rename_i hoff
    obtain ⟨⟨d, α'⟩, hd, e⟩ := omap hF
    cases e
    obtain ⟨d', hd₁, e⟩ := omap hd
    cases e
    obtain ⟨m, cm, hn, hq⟩ := fI.nm
    obtain ⟨a, ha, hd₂⟩ := obind hd₁
    obtain ⟨ds, hds, hd₃⟩ := obind hd₂
    clear hd hd₁ hd₂
    split at hd₃
    · obtain ⟨es, hes, rfl⟩ := omap hd₃
      have hcl : closureFor scope env = pure (clOf env.cells scope.names []) := closure_is fun n hn => he.cells n (ok.free hn).2
      have hg := fI.inv.glo
      have hx := fI.xb
      refine wpAny_Assign_ListComp_free (fun v => fc (inner vis j (dOf v) σ.ρ) == some true) (fun v y => ∃ e, fe (inner vis j (dOf v) σ.ρ) = some e ∧ flatRel y e) (hsw env he) hcl (fun y hy => by have := List.all_eq_true.mp ok.nocell y hy; simpa using this) ok.kind (fun y hy hl => by have := List.all_eq_true.mp ok.locals y hy; rw [hl] at this; simpa using this) ok.hx
        ((he.kindOf y).trans hky) (by rw [he.kind]; rfl) (hi A env s X aA σ.ρ m cm a he hA.rm hg hx hn ha _ _ fun v h₁ tk₁ r₁ k₁ => ?_) (hs env)
      refine iter_ok hA.handled r₁ hds fun h₂ fp P St hsz k₂ W hst hfp hP hle => ?_
      have k₁₂ : ∀ b o, s.heap.get? b = some o → h₂.get? b = some o := fun b o e => k₂ b o (k₁ b o e)
      have ne : ∀ {b ob}, s.heap.get? b = some ob → b ≠ h₁.objs.size := fun e q => absurd (Heap.lt_size (k₁ _ _ (q ▸ e))) (Nat.lt_irrefl _)
      refine ⟨_, fp, _, ds.length, P, St, m, rfl, W, lt_sizeLine hle, hst, fun b hb => ?_, ?_, hn.ns.keeps k₁₂, comp_quiet (I := h₁.objs.size) ok hc hf he hA.rm (hg.keeps k₁) (hx.keeps k₁) (hn.keeps k₁) rfl k₂ hP hes, fun D h' tk ys vs hD hl hpl hlen hvs hpr hns hkk => ?_⟩
      · rcases hfp b hb with rfl | ⟨_, o, e⟩
        · show h₁.objs.size < h₂.objs.size
          rw [hsz]; exact Nat.lt_succ_self _
        · exact Heap.lt_size (k₂ b o e)
      · intro hb
        obtain ⟨ob, _, _, e, _⟩ := hn.ns
        exact ne e (List.mem_singleton.mp hb)
      · have hr : RelL h₁ X aA vs ds := relL_of_get (by rw [hlen]) fun i v hv => hP i v (hvs i v hv)
        have kf : ∀ b ob, b ≠ env.locals → s.heap.get? b = some ob → h'.get? b = some ob := fun b ob hL e => hkk b ob hL (fun hb => ne e (List.mem_singleton.mp hb)) (k₁₂ b ob e)
        have q := compGo_rel (h' := h') (X' := X) (aA' := aA) _ _ (fun v d r hfl => by rw [dOf_rel r hfl]) (fun v d y r hfl ⟨e, h1, h2⟩ => ⟨e, by rw [← dOf_rel r hfl]; exact h1, h2⟩) hr hes hpr
        have nD : ¬ X D := fun e => by
          obtain ⟨o, e⟩ := hx D e
          have := k₁₂ D o e
          rw [hD] at this; cases this
        have hl1 := q.length
        have hl2 := compGo_length hes
        obtain ⟨st, fI'⟩ := fI.locals (tk := tk) okc he hn hq hN hy hky (ownOff_ok hoff) kf hns (.lst (vs := ys.toList) nD (by simpa using hpl) (by lia) q)
        exact h _ _ _ _ _ .next st fI'
    · cases hd₃
  · cases hF
end
end Mine
end

section
open PySem PySem.Calls PyProof.Rows
set_option maxRecDepth 100000
namespace Mine
section
variable {prog : Program} {w : World} {c : Cfg} {sc : List (Str × NameKind)} {N : List Str}
variable (prog w c) in
noncomputable def FnOK (f : Addr) (n : Nat) (F : List DV → Air → Option (DV × Air)) : Prop :=
  ∀ (A : Around) (s : Shared) (X : Addr → Prop) (aA : Option Addr) (α : Air) (vs : List Value) (ds : List DV) (d : DV) (α' : Air), RmN A n → GI c s X aA α → RelL s.heap X aA vs ds → F ds α = some (d, α') →
    ∀ (Q : Value → Shared → Prop) (E : Value → Shared → Prop), (∀ v s' aA' X', Rel s'.heap X' aA' v d → GStep c aA X s.heap aA' X' s'.heap → GI c s' X' aA' α' → Q v s') → wpAny (model prog w) A (call (.ref f) vs) Q E s
theorem cells_some : ∀ (names : List (Str × NameKind)) (n : Nat) (acc : List (Str × Addr)) (x : Str), names.lookup x = some .cell ∨ (acc.lookup x).isSome = true → ((cellsFrom n names acc).lookup x).isSome = true
  | [], n, acc, x, h => by
    rcases h with h | h
    · cases h
    · exact h
  | (y, k) :: r, n, acc, x, h => by
    unfold cellsFrom
    split
    · refine cells_some r _ _ x ?_
      by_cases e : (x == y) = true
      · right; rw [List.lookup_cons, e]; rfl
      · rw [Bool.not_eq_true] at e
        rcases h with h | h
        · left; rw [List.lookup_cons, e] at h; exact h
        · right; rw [List.lookup_cons, e]; exact h
    · rename_i hk
      refine cells_some r _ _ x ?_
      rcases h with h | h
      · rw [List.lookup_cons] at h
        split at h
        · cases h; exact absurd rfl hk
        · exact .inl h
      · exact .inr h
theorem bind_not {kindOf : Str → Option NameKind} : ∀ (binds : List (Str × Value)) (m cm : Str → Option Value) (x : Str), x ∉ binds.map (·.1) → bindL kindOf binds m x = m x ∧ bindC kindOf binds cm x = cm x
  | [], _, _, _, _ => ⟨rfl, rfl⟩
  | (y, v) :: r, m, cm, x, h => by
    simp only [List.map_cons, List.mem_cons, not_or] at h
    unfold bindL bindC
    obtain ⟨h1, h2⟩ := bind_not r (if kindOf y = some .local then fun z => if z = y then some v else m z else m) (if kindOf y = some .local then cm else fun z => if z = y then some v else cm z) x h.2
    refine ⟨h1.trans ?_, h2.trans ?_⟩
    · split
      · exact if_neg h.1
      · rfl
    · split
      · rfl
      · exact if_neg h.1
theorem bind_val {kindOf : Str → Option NameKind} : ∀ (xs : List Str) (vs : List Value) (m cm : Str → Option Value) (i : Nat) (x : Str) (v : Value), xs.Nodup → xs[i]? = some x → vs[i]? = some v →
    (kindOf x = some .local → bindL kindOf (xs.zip vs) m x = some v) ∧ (kindOf x ≠ some .local → bindC kindOf (xs.zip vs) cm x = some v)
  | [], _, _, _, i, x, v, _, h, _ => by simp at h
  | _ :: _, [], _, _, i, x, v, _, _, h => by simp at h
  | y :: ys, u :: us, m, cm, 0, x, v, hn, h, h' => by
    simp at h h'
    subst h; subst h'
    rw [List.nodup_cons] at hn
    have hm : y ∉ (ys.zip us).map (·.1) := fun q => by
      obtain ⟨p, hp, e⟩ := List.mem_map.mp q
      exact hn.1 (e ▸ (List.of_mem_zip hp).1)
    rw [List.zip_cons_cons]
    unfold bindL bindC
    obtain ⟨h1, h2⟩ := bind_not (kindOf := kindOf) (ys.zip us) (if kindOf y = some .local then fun z => if z = y then some u else m z else m) (if kindOf y = some .local then cm else fun z => if z = y then some u else cm z) y hm
    refine ⟨fun hk => h1.trans ?_, fun hk => h2.trans ?_⟩
    · rw [if_pos hk]; simp
    · rw [if_neg hk]; simp
  | y :: ys, u :: us, m, cm, i + 1, x, v, hn, h, h' => by
    rw [List.nodup_cons] at hn
    rw [List.zip_cons_cons]
    unfold bindL bindC
    exact bind_val ys us _ _ i x v hn.2 (by simpa using h) (by simpa using h')
inductive CodeOk (c : Cfg) (fd : FuncData) : Prop
  | mk (c₀ : Addr) (ob : Obj) (vs : Array Value) (t : Tok) (h1 : fd.code = .ref c₀) (h2 : c.h₁.get? c₀ = some ob) (h3 : ob.data = .fields vs) (h4 : vs[1]? = some (.str fd.qualname t)) (h5 : c₀ ≠ c.P₁) (h6 : c₀ ≠ c.P₂) : CodeOk c fd
structure FnAt (c : Cfg) (f : Addr) (o : Obj) (fd : FuncData) (body : List Stmt) (scope : Scope) (xs : List Str) (k : Nat) (dv : List Value) (dd : List DV) : Prop where
  ob : c.h₁.get? f = some o
  data : o.data = .func fd
  off : f ≠ c.P₁ ∧ f ≠ c.P₂
  hbody : fd.body = .stmts body
  hscope : fd.scope = scope
  globals : fd.globals = mainGlobals
  builtins : fd.builtins = builtinsNs
  closure : fd.closure = []
  code : CodeOk c fd
  bind : ∀ (s : Shared) (vs : List Value), Glo c s.heap → vs.length = k → BindsTo s fd ⟨vs, []⟩ (xs.zip (vs ++ dv))
  len : k + dv.length = xs.length
  dflt : ∀ h X aA, RelL h X aA dv dd
  nofree : (scope.names.all fun y => y.2 != .free) = true
  pars : (xs.all fun x => scope.names.lookup x == some .local || scope.names.lookup x == some .cell) = true
  nodup : xs.Nodup
  co : scope.isCoroutine = false := by rfl
  gen : scope.isGenerator = false := by rfl
  kind : scope.kind = .function := by rfl
theorem call_gen {A : Around} {s : Shared} {R : Result → Shared → Prop} {a : Addr} {o : Obj} {fd : FuncData} {body : List Stmt} {args : Args} {binds : List (Str × Value)}
    (hroom : A.depth < recursionLimit) (ho : s.heap.get? a = some o) (hdata : o.data = .func fd) (hlim : s.heap.NoLimit) (hcd : s.heap.CodeRec fd.code fd.qualname)
    (hbody : fd.body = .stmts body) (hbind : BindsTo s fd args binds) (hclo : fd.closure = [])
    (hkind : ∀ x ∈ binds, fd.scope.names.lookup x.1 = some .local ∨ (fd.scope.names.lookup x.1 = some .cell ∧ ((cellsFrom (s.heap.objs.size + 1) fd.scope.names []).lookup x.1).isSome = true))
    (h : ∀ s₁, InCallC s (callEnvC fd s.heap.objs.size a).locals (bindL (callEnvC fd s.heap.objs.size a).kindOf binds fun _ => none) (callEnvC fd s.heap.objs.size a).cells
        (bindC (callEnvC fd s.heap.objs.size a).kindOf binds fun _ => none) s₁ →
      wpAny (model prog w) (A.deeper (callEnvC fd s.heap.objs.size a)) (execs body (callEnvC fd s.heap.objs.size a)) (fun f s' => R (.ok (.ret (match f with | .ret v => v | _ => .none))) s') (fun _ _ => False) s₁)
    (hco : fd.scope.isCoroutine = false) (hgen : fd.scope.isGenerator = false) (hk : fd.scope.kind = .function) : codeAny (model prog w) A (.call (.ref a) args) R s := by
  refine codeAny_call_function hroom ho hdata hco hgen hbody hcd (hbind _ _ _ _ ?_)
  rw [hclo]
  refine wpAny_newFunctionEnv_cells hk hkind fun env he s' x => ?_
  subst he
  exact ⟨hlim.keeps x.toInCall.keep, codeAny_func (wpAny_mono (h s' x) (fun _ _ x => x) fun _ _ x => x.elim)⟩
noncomputable def fnOf (k : Nat) (dd : List DV) (j : Nat) (G : SF) : List DV → Air → Option (DV × Air) := fun ds α => if ds.length = k then (G ⟨(ds ++ dd) ++ List.replicate j .undef, none, α⟩).bind fun p => match p.1 with
    | .ret d => some (d, p.2.air)
    | .next => some (.none, p.2.air)
    | .brk => none
  else none
theorem fn_okc {n k : Nat} {f : Addr} {o : Obj} {fd : FuncData} {body : List Stmt} {scope : Scope} {xs ys : List Str} {dv : List Value} {dd : List DV} {G : SF} (fa : FnAt c f o fd body scope xs k dv dd) (hN : N = xs ++ ys)
    (hb : ∀ (A : Around) (env : Env) (s : Shared) (σ : St) (o aA : Option Addr) (X : Addr → Prop) (fl : Fl) (σ' : St), EnvOk env scope.names → env.code = fd.code → RmN A n → FI c env N s σ o aA X → G σ = some (fl, σ') →
      ∀ (Q : Flow → Shared → Prop) (E : Value → Shared → Prop), (∀ f s' o' aA' X', FlR s'.heap X' aA' f fl → SStep c env o aA X s.heap o' aA' X' s'.heap → FI c env N s' σ' o' aA' X' → Q f s') → wpAny (model prog w) A (execs body env) Q E s) :
    FnOK prog w c f (n + 1) (fnOf k dd ys.length G) := by
  intro A s X aA α vs₀ ds₀ d α' hA g r₀ hF Q E h
  unfold fnOf at hF
  split at hF
  · rename_i hlen₀
    obtain ⟨⟨fl, σ'⟩, hG, hF⟩ := obind hF
    have hlv₀ : vs₀.length = k := by rw [r₀.length, hlen₀]
    have r : RelL s.heap X aA (vs₀ ++ dv) (ds₀ ++ dd) := r₀.append (fa.dflt _ _ _)
    generalize hvs : vs₀ ++ dv = vs at *
    generalize hds : ds₀ ++ dd = ds at *
    have hlv : vs.length = xs.length := by rw [← hvs, List.length_append, hlv₀, fa.len]
    have hlen : ds.length = xs.length := by rw [← r.length, hlv]
    have hob := g.inv.glo.keep _ _ fa.ob fa.off.1 fa.off.2
    obtain ⟨c₀, oc, ovs, t, hcd, ho, hod, ht, n1, n2⟩ := fa.code
    have hcr : s.heap.CodeRec fd.code fd.qualname := ⟨c₀, oc, ovs, t, hcd, g.inv.glo.keep _ _ ho n1 n2, hod, ht⟩
    have par : ∀ x ∈ xs, scope.names.lookup x = some .local ∨ scope.names.lookup x = some .cell := fun x hx => by
      have := List.all_eq_true.mp fa.pars x hx
      simpa using this
    have hroom : A.depth < recursionLimit := by have := hA.depth; lia
    have hbind := fa.bind s vs₀ g.inv.glo hlv₀
    rw [hvs] at hbind
    refine wpAny_call (call_gen (body := body) hroom hob fa.data g.inv.glo.lim hcr fa.hbody hbind fa.closure (fun p hp => ?_) (fun s₁ C₀ => ?_) (fa.hscope ▸ fa.co) (fa.hscope ▸ fa.gen) (fa.hscope ▸ fa.kind))
    · rw [fa.hscope]
      rcases par p.1 (List.of_mem_zip hp).1 with q | q
      · exact .inl q
      · exact .inr ⟨q, cells_some _ _ _ _ (.inl q)⟩
    · obtain ⟨h₁, tk, rfl, _⟩ := C₀.done
      have F : Fr s.heap (callEnvC fd s.heap.objs.size f).locals h₁ (bindL (callEnvC fd s.heap.objs.size f).kindOf (xs.zip vs) fun _ => none) := ⟨C₀.toInCall.ns, C₀.toInCall.keep, C₀.toInCall.fresh⟩
      have C : Cl (callEnvC fd s.heap.objs.size f).locals (callEnvC fd s.heap.objs.size f).cells h₁ (bindC (callEnvC fd s.heap.objs.size f).kindOf (xs.zip vs) fun _ => none) := ⟨C₀.cell, C₀.apart, C₀.above⟩
      clear C₀
      generalize henv : callEnvC fd s.heap.objs.size f = env at *
      have hcells : cellsFrom (s.heap.objs.size + 1) scope.names [] = env.cells := by rw [← henv, ← fa.hscope]; rfl
      have hL : env.locals = s.heap.objs.size := by rw [← henv]; rfl
      have hcode : env.code = fd.code := by rw [← henv]; rfl
      have he : EnvOk env scope.names := by
        subst henv
        refine ⟨(show fd.scope.kind = .function by rw [fa.hscope]; exact fa.kind), fa.globals, (show fd.scope.names = scope.names by rw [fa.hscope]), fa.builtins, fun x hx => ?_⟩
        rcases hx with hx | hx
        · rw [← hcells]; exact cells_some _ _ _ _ (.inl hx)
        · have := List.all_eq_true.mp fa.nofree _ (mem_of_lookup hx)
          simp at this
      let X₁ : Addr → Prop := fun b => X b ∨ Frm env none b
      have fresh : ∀ b, Frm env none b → s.heap.get? b = none := fun b hb => by
        have hle : s.heap.objs.size ≤ b := by
          rcases hb with rfl | ⟨x, hb⟩ | hb
          · exact Nat.le_of_eq hL.symm
          · exact hL ▸ Nat.le_of_lt (C.above x b (mem_of_lookup hb))
          · cases hb
        cases q : s.heap.get? b with
        | none => rfl
        | some ob => exact absurd (Heap.lt_size q) (Nat.not_lt.mpr hle)
      have nX : ∀ b, Frm env none b → ¬ X b := fun b hb q => by
        obtain ⟨ob, e⟩ := g.xb b q
        rw [fresh b hb] at e; cases e
      have alive : ∀ b, Frm env none b → ∃ ob, h₁.get? b = some ob := fun b hb => by
        rcases hb with rfl | ⟨x, hb⟩ | hb
        · obtain ⟨ob, _, _, e, _⟩ := F.ns; exact ⟨ob, e⟩
        · obtain ⟨ob, e, _⟩ := C.cell x b hb; exact ⟨ob, e⟩
        · cases hb
      have ne : ∀ {b ob}, s.heap.get? b = some ob → ¬ Frm env none b := fun e q => by rw [fresh _ q] at e; cases e
      have fi : FI c env N { s with heap := h₁, toks := tk } ⟨ds ++ List.replicate ys.length .undef, none, α⟩ none aA X₁ := by
        refine ⟨g.inv.keeps F.keep, fun b hb => ?_, g.air.mono (fun b ob e _ => F.keep b ob e) (fun _ _ ob e => F.keep _ ob e) (fun b ob e nx q => q.elim nx (ne e)) fun _ _ q => .inl q,
          ⟨fun b hb => ⟨fun q => nX b hb (g.mx b q), .inr hb, g.inv.glo.alive g.mx g.xb (fresh b hb)⟩, fun b q => .inl (g.mx b q), fun x y b h1 h2 => name_of_addr C.apart (mem_of_lookup h1) (mem_of_lookup h2), fun x b e q => ?_, fun b e => nomatch e⟩,
          _, _, ⟨F.ns, C.cell, fun i d hi hne => ?_⟩, trivial⟩
        · rcases hb with hb | hb
          · obtain ⟨ob, e⟩ := g.xb b hb; exact ⟨ob, F.keep b ob e⟩
          · exact alive b hb
        · exact Nat.lt_irrefl _ (q ▸ C.above x b (mem_of_lookup e))
        · have hi' : i < ds.length := by
            rcases Nat.lt_or_ge i ds.length with q | q
            · exact q
            · rw [List.getElem?_append_right q, List.getElem?_replicate] at hi
              split at hi
              · cases hi; exact absurd rfl hne
              · cases hi
          rw [List.getElem?_append_left hi'] at hi
          obtain ⟨v, hv, rv⟩ := r.get hi
          have hx : ∃ x, xs[i]? = some x := ⟨_, List.getElem?_eq_getElem (hlen ▸ hi')⟩
          obtain ⟨x, hx⟩ := hx
          refine ⟨x, v, ?_, ?_, rv.mono (fun b ob e _ => F.keep b ob e) (fun b ob e nx q => q.elim nx (ne e)) fun _ e => e⟩
          · rw [hN, List.getElem?_append_left (hlen ▸ hi')]; exact hx
          · obtain ⟨b1, b2⟩ := bind_val (kindOf := env.kindOf) xs vs (fun _ => none) (fun _ => none) i x v fa.nodup hx hv
            unfold valOf
            rcases par x (List.mem_of_getElem? hx) with q | q
            · have q' : env.kindOf x = some .local := (he.kindOf x).trans q
              rw [q']; exact b1 q'
            · have q' : env.kindOf x = some .cell := (he.kindOf x).trans q
              have q'' : env.kindOf x ≠ some .local := by rw [q']; decide
              rw [q']
              show (if (env.cells.lookup x).isSome = true then _ else none) = some v
              rw [if_pos (he.cells x (.inl q))]; exact b2 q''
      have hA' : RmN (A.deeper env) n := ⟨hA.handled, by have := hA.depth; show A.depth + 1 + n < recursionLimit; lia, by have := hA.units; show A.units + 3 + 40 + 8 * n < cLine; lia⟩
      refine hb (A.deeper env) env _ _ none aA X₁ fl σ' he hcode hA' fi hG _ _ fun fw s' o' aA' X' rf st fi' => ?_
      have gs : GStep c aA X s.heap aA' X' s'.heap := by
        refine ⟨fun b ob e hm => st.keep b ob (F.keep b ob e) hm (ne e), fun b ob e => st.there b ob (F.keep b ob e), fun b hb => ?_, fun b ob e q => ?_, ?_⟩
        · obtain ⟨ob, e⟩ := g.xb b hb
          rcases st.sub b ob (F.keep b ob e) (.inl hb) with q | q
          · exact q
          · cases q
        · exact (st.new b ob (F.keep b ob e) q).elim id fun q => absurd q (ne e)
        · rcases st.air with q | ⟨q, a, e, q'⟩
          · exact .inl q
          · refine .inr ⟨q, a, e, ?_⟩
            cases z : s.heap.get? a with
            | none => rfl
            | some ob => have := F.keep a ob z; rw [show h₁.get? a = none from q'] at this; cases this
      cases rf with
      | next => cases hF; exact h _ s' aA' X' .none gs fi'.gi
      | brk => cases hF
      | ret rv => cases hF; exact h _ s' aA' X' rv gs fi'.gi
  · cases hF
theorem fn_ok {n k : Nat} {f : Addr} {o : Obj} {fd : FuncData} {body : List Stmt} {scope : Scope} {xs ys : List Str} {dv : List Value} {dd : List DV} {G : SF} (fa : FnAt c f o fd body scope xs k dv dd) (hN : N = xs ++ ys) (hb : SS prog w c scope.names N n body G) :
    FnOK prog w c f (n + 1) (fnOf k dd ys.length G) := fn_okc fa hN fun A env s σ o aA X fl σ' he _ => hb A env s σ o aA X fl σ' he
theorem FnOK.le {f : Addr} {n k : Nat} {F : List DV → Air → Option (DV × Air)} (h : FnOK prog w c f n F) (hk : n ≤ k) : FnOK prog w c f k F :=
  fun A s X aA α vs ds d α' hA => h A s X aA α vs ds d α' (hA.le hk)
noncomputable def gCall (F : List DV → Air → Option (DV × Air)) (g : List DV → Air → Option (List DV × Air)) : List DV → Air → Option (DV × Air) := fun ρ α => (g ρ α).bind fun p => F p.1 p.2
theorem ge_call {n : Nat} {x : Str} {np pos : Pos} {e : Expr} {es : List Expr} {f : Addr} {o : Obj} {fd : FuncData} {F : List DV → Air → Option (DV × Air)} {g : List DV → Air → Option (List DV × Air)} (hf : FnOK prog w c f n F) (hk : sc.lookup x = some .globalImplicit) (hv : c.mg x = some (.ref f)) (ho : c.h₁.get? f = some o) (hdat : o.data = .func fd) (h1 : f ≠ c.P₁ ∧ f ≠ c.P₂)
    (hg' : GL prog w c sc N n (e :: es) g) (hd : (x == ("__debug__" : Str)) = false := by decide +kernel) (hst : ∀ env, starEach (e :: es) env = (false, eval e env) :: starEach es env := by intro _; rfl) :
    GE prog w c sc N n (.Call (.Name x np) (e :: es) [] pos) (gCall F g) := by
  intro A env s X aA α ρ m cm d α' he hA g of hn hF Q E h
  obtain ⟨⟨ds, α₁⟩, hds, hF⟩ := obind hF
  refine wpAny_Call_NameR (load_global he g.inv.glo hk hv hd (PyProof.Rows.callWith_def hdat ?_ (hst _)))
  refine hg' A env s X aA α ρ m cm ds α₁ pos he hA g of hn hds _ _ fun vs s₁ aA₁ X₁ r₁ st₁ g₁ => ⟨g₁.inv.glo.keep _ _ ho h1.1 h1.2, ?_⟩
  exact hf A s₁ X₁ aA₁ α₁ vs ds d α' hA g₁ r₁ hF _ _ fun v s₂ aA₂ X₂ r₂ st₂ g₂ => h v s₂ aA₂ X₂ r₂ (st₁.trans st₂) g₂
end
end Mine
end

section
open PySem PySem.Calls PyProof.Rows PySem.W
set_option maxRecDepth 100000
namespace Mine
structure AirK (c : Cfg) (K : Frag) : Prop where
  inn : K.In c.h₁
  off : ∀ a o, K.lookup a = some o → a ≠ c.P₁ ∧ a ≠ c.P₂
  ga : findIn K (.ref c.C) "__getattribute__" = some (some (.builtin "list.__getattribute__"))
  gk : findIn K (.ref c.C) "__getattr__" = some none
  sub : mroIn K c.C (.type "list") = some true
  nq : noSeq K c.C = true
  app : findIn K (.ref c.C) "append" = some (some (.builtin "list.append"))
  gi : findIn K (.ref c.C) "__getitem__" = some (some (.builtin "list.__getitem__"))
  si : findIn K (.ref c.C) "__setitem__" = some (some (.builtin "list.__setitem__"))
  it : findIn K (.ref c.C) "__iter__" = some (some (.builtin "list.__iter__"))
  own : ∃ cd, clsIn K c.C = some cd ∧ cd.hasDict = true
  nof : findIn K (.ref c.C) "_initial_size" = some none
theorem AirK.at {c : Cfg} {K : Frag} (k : AirK c K) {h : Heap} (g : Glo c h) : K.In h := fun a o e => g.keep a o (k.inn a o e) (k.off a o e).1 (k.off a o e).2
noncomputable def airDict (hsh : Int) (tk t : Tok) (ep : Nat) : Obj := { cls := .type "dict", data := .dict #[⟨hsh, .str "_initial_size" tk, .int 2 t⟩] ep }
noncomputable def airObj (C dx : Addr) (its : Array Value) (n : Nat) : Obj := { cls := .ref C, dict := some dx, data := .seq its n }
section
variable {prog : Program} {w : World} {c : Cfg} {K : Frag} {A : Around} {s : Shared}
theorem inst_of {h : Heap} {a dx : Addr} {its : Array Value} {n : Nat} {od : Obj} (ho : h.get? a = some (airObj c.C dx its n)) (hd : h.get? dx = some od) : InstAt h a (airObj c.C dx its n) c.C (some od) := ⟨ho, rfl, rfl, hd⟩
theorem canon_list_ga : (Manifest.canonical "list.__getattribute__" != "object.__getattribute__") = false := by decide +kernel
theorem method_md {E : Value → Shared → Prop} {x : Addr} {C : Addr} {ox : Obj} {od : Option Obj} {name : Str} {pl : Sem Bool} {Q : Value × List Value → Shared → Prop} {id : String} (X : K.In s.heap) (I : InstAt s.heap x ox C od) (hga : findIn K (.ref C) "__getattribute__" = some (some (.builtin "list.__getattribute__"))) (hk : findIn K (.ref C) "__getattr__" = some none)
    (hf : findIn K (.ref C) name = some (some (.builtin id))) (ht : typeOf (.builtin id) = pure (.type "method_descriptor")) (hs : shadowIn od name = some false) (h : Q (.builtin id, [.ref x]) s) :
    wpAny (model prog w) A (getMethod (.ref x) name pl) Q E s := by
  have hcan := canon_list_ga
  unfold getMethod specialOf
  refine wpAny_bind (wpAny_bind (I.type.here ((looks_findIn X hga).here ?_)))
  dsimp only
  rw [hcan, if_neg (by decide)]
  refine wpAny_bind (wpAny_bind (I.type.here ((looks_findIn X hk).here ?_)))
  refine wpAny_bind (wpAny_bind (I.type.here ((looks_findIn X hf).here (wpAny_bind (wpAny_of_eq ht ?_)))))
  rw [if_neg (by decide +kernel)]
  refine wpAny_bind (wpAny_loadPart I.at_ ?_)
  have hd := I.dict
  cases e : ox.dict with
  | none => exact wpAny_bind (wpAny_rule (wpAny_pure h))
  | some dx =>
    cases od with
    | none => rw [e] at hd; exact hd.elim
    | some o =>
      rw [e] at hd
      obtain ⟨r, a, b⟩ := omap hs
      refine wpAny_bind (wpAny_bind (wpAny_loadPart hd ?_))
      rw [nsLook_of a]
      refine wpAny_pure ?_
      rw [b]
      exact wpAny_bind (wpAny_rule (wpAny_pure h))
theorem method_own {E : Value → Shared → Prop} {x f : Addr} {C : Addr} {ox : Obj} {od : Option Obj} {name : Str} {pl : Sem Bool} {Q : Value × List Value → Shared → Prop} (X : K.In s.heap) (I : InstAt s.heap x ox C od) (hga : findIn K (.ref C) "__getattribute__" = some (some (.builtin "list.__getattribute__"))) (hk : findIn K (.ref C) "__getattr__" = some none)
    (hf : findIn K (.ref C) name = some (some (.ref f))) (ht : typeIn K (.ref f) = some (.type "function")) (hs : shadowIn od name = some false) (h : Q (.ref f, [.ref x]) s) :
    wpAny (model prog w) A (getMethod (.ref x) name pl) Q E s := by
  have hcan := canon_list_ga
  unfold getMethod specialOf
  refine wpAny_bind (wpAny_bind (I.type.here ((looks_findIn X hga).here ?_)))
  dsimp only
  rw [hcan, if_neg (by decide)]
  refine wpAny_bind (wpAny_bind (I.type.here ((looks_findIn X hk).here ?_)))
  refine wpAny_bind (wpAny_bind (I.type.here ((looks_findIn X hf).here (wpAny_bind ((looks_typeIn X ht).here ?_)))))
  rw [if_neg (by decide +kernel)]
  refine wpAny_bind (wpAny_loadPart I.at_ ?_)
  have hd := I.dict
  cases e : ox.dict with
  | none => exact wpAny_bind (wpAny_rule (wpAny_pure h))
  | some dx =>
    cases od with
    | none => rw [e] at hd; exact hd.elim
    | some o =>
      rw [e] at hd
      obtain ⟨r, a, b⟩ := omap hs
      refine wpAny_bind (wpAny_bind (wpAny_loadPart hd ?_))
      rw [nsLook_of a]
      refine wpAny_pure ?_
      rw [b]
      exact wpAny_bind (wpAny_rule (wpAny_pure h))
theorem check_method {M : Model} {A : Around} {E : Value → Shared → Prop} {s : Shared} {i owner n : String} {self : Value} {rest : List Value} {kw : List (Str × Value)} {Q : Unit → Shared → Prop}
    (hk : builtinKind i = some .method) (hs : splitId i = some (owner, n)) (hi : Looks M s.heap (isInstance self (.type owner)) true) (ha : argsOk i ⟨self :: rest, kw⟩) (q : Q () s) :
    wpAny M A (checkBuiltinCall i ⟨self :: rest, kw⟩) Q E s := by
  simp only [checkBuiltinCall, hk, hs]
  refine wpAny_bind (hi.here ?_)
  simp only [Bool.not_true, Bool.false_eq_true, if_false]
  cases hsig : Manifest.signature? i with
  | none => exact wpAny_pure q
  | some sig =>
    simp only [argsOk, hsig] at ha
    have h2 : Bind.checkArgs i sig ⟨self :: rest, kw⟩ = pure () := ha
    show wpAny M A (Bind.checkArgs i sig ⟨self :: rest, kw⟩) Q E s
    rw [h2]; exact wpAny_pure q
theorem is_list {M : Model} {h : Heap} {a : Addr} {ox : Obj} {C : Addr} {od : Option Obj} (X : K.In h) (I : InstAt h a ox C od) (hm : mroIn K C (.type "list") = some true) : Looks M h (isInstance (.ref a) (.type "list")) true :=
  I.type.andThen (looks_mroIn X hm)
theorem call_inst {id : String} {b : Builtin} {x : Addr} {rest : List Value} {Q : Value → Shared → Prop} {E : Value → Shared → Prop} (hp : plainId id = true) (hb : entryFor table id = some b)
    (hc : wpAny (model prog w) A.in1 (checkBuiltinCall id ⟨.ref x :: rest, []⟩) (fun _ s₁ => wpAny (model prog w) A.in1 (b ⟨.ref x :: rest, []⟩) (fun fin s' => ∃ v, fin = .done (.ret v) ∧ Q v s') E s₁) E s) :
    wpAny (model prog w) A (call (.builtin id) (.ref x :: rest)) Q E s := by
  refine wpAny_call (codeAny_call_builtin hp hb (wpAny_mono hc (fun _ s₁ h₁ => wpAny_mono h₁ (fun fin s' h' => ?_) fun _ _ e => e) fun _ _ e => e))
  obtain ⟨v, rfl, hv⟩ := h'; exact hv
theorem inst_append {a dx : Addr} {its : Array Value} {n : Nat} {od : Obj} {v : Value} {Q : Value → Shared → Prop} {E : Value → Shared → Prop} (X : K.In s.heap) (hm : mroIn K c.C (.type "list") = some true) (ho : s.heap.get? a = some (airObj c.C dx its n)) (hd : s.heap.get? dx = some od) (hsz : its.size ≤ sizeLine)
    (h : ∀ h' n', h'.get? a = some (airObj c.C dx (its.push v) n') → Heap.SameBut a s.heap h' → Q .none { s with heap := h' }) : wpAny (model prog w) A (call (.builtin "list.append") [.ref a, v]) Q E s := by
  refine call_inst (by decide +kernel) entry_list_append (check_method (owner := "list") (n := "append") (by decide +kernel) (by decide +kernel) (is_list X (inst_of ho hd) hm) (args_list_append _ _) ?_)
  show wpAny _ _ (updateSeq a (·.push v) >>= fun _ => ret .none) _ _ s
  refine wpAny_bind (wpAny_updateSeq ho rfl (wpAny_pure ⟨.none, rfl, h _ (if (its.push v).size == its.size then n else n + 1) ?_ (Heap.SameBut.update ..)⟩))
  rw [Heap.get?_update_self _ ho rfl]
  rfl
end
end Mine
end

section
open PySem PySem.Calls PyProof.Rows PySem.W
set_option maxRecDepth 100000
namespace Mine
section
variable {prog : Program} {w : World} {c : Cfg} {K : Frag} {A : Around} {s : Shared}
theorem inst_special {M : Model} {E : Value → Shared → Prop} {x C : Addr} {ox : Obj} {od : Option Obj} {name : Str} {id : String} {T : String} {args : List Value} {Q : Option Value → Shared → Prop} (X : K.In s.heap) (I : InstAt s.heap x ox C od) (hf : findIn K (.ref C) name = some (some (.builtin id))) (S : Slot T name id)
    (hc : wpAny M A (call (.builtin id) (.ref x :: args)) (fun v => Q (some v)) E s) : wpAny M A (callSpecial? (.ref x) name args) Q E s := by
  simp only [callSpecial?, specialOf]
  refine wpAny_bind (wpAny_bind (I.type.here ((looks_findIn X hf).here ?_)))
  simp only [S.bind]
  exact wpAny_holding (wpAny_bind (wpAny_pure (wpAny_bind (wpAny_mono hc (fun v s' h' => wpAny_pure h') fun _ _ h' => h'))))
theorem inst_check {M : Model} {A : Around} {E : Value → Shared → Prop} {s : Shared} {x C : Addr} {ox : Obj} {od : Option Obj} {i n : String} {rest : List Value} {Q : Unit → Shared → Prop} (X : K.In s.heap) (I : InstAt s.heap x ox C od) (hm : mroIn K C (.type "list") = some true)
    (hk : builtinKind i = some .method ∨ builtinKind i = some .slot) (hs : splitId i = some ("list", n)) (ha : argsOk i ⟨.ref x :: rest, []⟩) (q : Q () s) : wpAny M A (checkBuiltinCall i ⟨.ref x :: rest, []⟩) Q E s := by
  rcases hk with hk | hk
  · exact check_method hk hs (is_list X I hm) ha q
  · exact check_slot hk hs (is_list X I hm) ha q
theorem inst_key {E : Value → Shared → Prop} {x C : Addr} {ox : Obj} {od : Option Obj} {k : Value} {name : Str} {Q : Value → Shared → Prop} (X : K.In s.heap) (I : InstAt s.heap x ox C od) (hq : noSeq K C = true) (h : Q k s) : wpAny (model prog w) A (sequenceKey (.ref x) k name) Q E s := by
  unfold sequenceKey
  refine wpAny_bind (I.type.here ?_)
  refine wpAny_bind ((anyM_none X hq).here ?_)
  rw [if_pos (show (!false) = true from rfl)]
  exact wpAny_pure h
theorem slice_subscript {E : Value → Shared → Prop} {sl : Addr} {vl vu vs : Value} {α : Type} {f : Option Int → Sem α} {Q : α → Shared → Prop} (hs : s.heap.IsSliceOf sl vl vu vs) (h : wpAny (model prog w) A (f none) Q E s) : wpAny (model prog w) A (Builtin.List.listSubscript? (.ref sl) >>= f) Q E s := by
  obtain ⟨os, hos, hcs, hds⟩ := id hs
  have hTs : s.TypeIs (.ref sl) "slice" := ⟨os, hos, hcs⟩
  refine wpAny_bind ?_
  unfold Builtin.List.listSubscript?
  refine wpAny_bind (wpAny_specialOf hTs slice_no_index ?_)
  simp only [Option.isNone_none, if_true]
  exact wpAny_pure h
theorem slice_parts {E : Value → Shared → Prop} {sl : Addr} {vl vu vs : Value} {lo hi st : Option Int} {Q : Value × Value × Value → Shared → Prop} (hs : s.heap.IsSliceOf sl vl vu vs) (pl : IsPart vl lo) (pu : IsPart vu hi) (ps : IsPart vs st) (h0 : st ≠ some 0)
    (h : Q (rawPart lo, rawPart hi, rawPart st) s) : wpAny (model prog w) A (Builtin.List.listSliceParts (.ref sl)) Q E s := by
  obtain ⟨os, hos, hcs, hds⟩ := id hs
  rw [listSliceParts_eq]
  have hstep : ¬ ((rawPart st == rawInt 0) = true) := by
    cases st with
    | none => exact Bool.false_ne_true
    | some c =>
      intro hh
      have : c = 0 := by simpa [rawPart, rawInt] using hh
      exact h0 (by rw [this])
  refine wpAny_bind (wpAny_field hos hds (x := vs) rfl (wpAny_bind (wpAny_listPart ps ?_)))
  rw [if_neg hstep]
  refine wpAny_bind (wpAny_field hos hds (x := vl) rfl (wpAny_bind (wpAny_listPart pl ?_)))
  exact wpAny_bind (wpAny_field hos hds (x := vu) rfl (wpAny_bind (wpAny_listPart pu (wpAny_pure h))))
theorem bounds_all (n : Nat) : sliceBounds (some 0) none none n = (0, (n : Int), 1) := by
  simp only [sliceBounds, Option.getD_none]
  simp
  lia
theorem pick_all (items : Array Value) : slicePick items (some 0) none none = items := by
  unfold slicePick
  have e : (sliceBounds (some 0) none none items.size) = (0, (items.size : Int), 1) := by
    simp only [sliceBounds, Option.getD_none]
    simp
    lia
  rw [e]
  have e2 : sliceRange 0 (items.size : Int) 1 = List.range items.size := by
    have := sliceRange_one 0 items.size
    simpa using this
  show ((sliceRange 0 (items.size : Int) 1).filterMap (items[·]?)).toArray = items
  rw [e2]
  have this : ∀ n, n ≤ items.size → (List.range n).filterMap (items[·]?) = items.toList.take n := by
    intro n hn
    induction n with
    | zero => rfl
    | succ n ih =>
      rw [List.range_succ, List.filterMap_append, ih (by lia)]
      rw [List.take_add_one]
      simp [Array.getElem?_eq_getElem (show n < items.size by lia)]
  rw [this _ (Nat.le_refl _), List.take_of_length_le (by simp)]
theorem k_gi1 : builtinKind "list.__getitem__" = some .method := by decide +kernel
theorem k_gi2 : splitId "list.__getitem__" = some ("list", "__getitem__") := by decide +kernel
theorem inst_slice {E : Value → Shared → Prop} {a dx sl : Addr} {its : Array Value} {n : Nat} {od : Obj} {vl vu : Value} {lo hi : Option Int} {Q : Value → Shared → Prop} (X : K.In s.heap) (hm : mroIn K c.C (.type "list") = some true) (hq : noSeq K c.C = true) (hgi : findIn K (.ref c.C) "__getitem__" = some (some (.builtin "list.__getitem__"))) (ho : s.heap.get? a = some (airObj c.C dx its n)) (hd : s.heap.get? dx = some od) (hsz : its.size ≤ sizeLine) (hs : s.heap.IsSliceOf sl vl vu .none) (pl : IsPart vl lo) (pu : IsPart vu hi)
    (h : Q (.ref s.heap.objs.size) { s with heap := s.heap.push { cls := .type "list", data := .seq (slicePick its lo hi none) } }) : wpAny (model prog w) A (getItem (.ref a) (.ref sl)) Q E s := by
  have I := inst_of (c := c) ho hd
  obtain ⟨os, hos, hcs, hds⟩ := id hs
  have hTs : s.TypeIs (.ref sl) "slice" := ⟨os, hos, hcs⟩
  unfold getItem
  refine wpAny_holding (wpAny_bind (inst_key X I hq (wpAny_bind (inst_special X I hgi slot_list_getitem ?_))))
  refine call_inst slot_list_getitem.plain entry_list_getitem ?_
  refine inst_check (i := "list.__getitem__") (n := "__getitem__") (rest := [.ref sl]) X I hm (.inl k_gi1) k_gi2 (args_list_getitem _ _) ?_
  show wpAny _ _ (Builtin.List.listSubscript? (.ref sl) >>= _) _ _ s
  refine slice_subscript hs ?_
  show wpAny _ _ (typeOf (.ref sl) >>= _) _ _ s
  refine wpAny_bind (wpAny_typeOf hTs ?_)
  rw [if_neg (by decide)]
  refine wpAny_bind (slice_parts hs pl pu .none (by simp) ?_)
  refine wpAny_bind (m := Builtin.List.listItems (.ref a)) ?_
  unfold Builtin.List.listItems
  refine wpAny_bind (wpAny_seqItems ho rfl (wpAny_pure ?_))
  refine wpAny_bind (wpAny_of_eq (sliceIndices_raw lo hi none its.size (by simp)) ?_)
  exact wpAny_bind (wpAny_newObj_type (wpAny_pure ⟨_, rfl, wpAny_pure h⟩) (Nat.le_trans (slicePick_size_le its lo hi none) hsz))
theorem inst_from {E : Value → Shared → Prop} {a dx sl : Addr} {its : Array Value} {n : Nat} {od : Obj} {t : Tok} {Q : Value → Shared → Prop} (X : K.In s.heap) (hm : mroIn K c.C (.type "list") = some true) (hq : noSeq K c.C = true) (hgi : findIn K (.ref c.C) "__getitem__" = some (some (.builtin "list.__getitem__"))) (ho : s.heap.get? a = some (airObj c.C dx its n)) (hd : s.heap.get? dx = some od) (hsz : its.size ≤ sizeLine) (hs : s.heap.IsSliceOf sl (.int 0 t) .none .none)
    (h : Q (.ref s.heap.objs.size) { s with heap := s.heap.push { cls := .type "list", data := .seq its } }) : wpAny (model prog w) A (getItem (.ref a) (.ref sl)) Q E s :=
  inst_slice X hm hq hgi ho hd hsz hs (.int 0 t) .none (by rw [pick_all]; exact h)
theorem k_si1 : builtinKind "list.__setitem__" = some .slot := by decide +kernel
theorem k_si2 : splitId "list.__setitem__" = some ("list", "__setitem__") := by decide +kernel
theorem inst_clear {E : Value → Shared → Prop} {a dx sl e : Addr} {its : Array Value} {n : Nat} {od : Obj} {t : Tok} {Q : Unit → Shared → Prop} (X : K.In s.heap) (hm : mroIn K c.C (.type "list") = some true) (hq : noSeq K c.C = true) (hsi : findIn K (.ref c.C) "__setitem__" = some (some (.builtin "list.__setitem__"))) (ho : s.heap.get? a = some (airObj c.C dx its n)) (hd : s.heap.get? dx = some od) (hsz : its.size ≤ sizeLine) (hs : s.heap.IsSliceOf sl (.int 0 t) .none .none)
    (he : s.heap.PlainList e #[]) (h : ∀ h' n', h'.get? a = some (airObj c.C dx #[] n') → Heap.SameBut a s.heap h' → Q () { s with heap := h' }) : wpAny (model prog w) A (setItem (.ref a) (.ref sl) (.ref e)) Q E s := by
  have I := inst_of (c := c) ho hd
  obtain ⟨os, hos, hcs, hds⟩ := id hs
  have hTs : s.TypeIs (.ref sl) "slice" := ⟨os, hos, hcs⟩
  obtain ⟨ne, hoe⟩ := id he
  have hTe : s.TypeIs (.ref e) "list" := ⟨_, hoe, rfl⟩
  have hae : (a == e) = false := by
    rw [beq_eq_false_iff_ne]
    rintro rfl
    rw [ho] at hoe
    cases hoe
  unfold setItem
  refine wpAny_holding (wpAny_bind (inst_key X I hq (wpAny_bind (inst_special X I hsi slot_list_setitem ?_))))
  refine call_inst slot_list_setitem.plain entry_list_setitem ?_
  refine inst_check (i := "list.__setitem__") (n := "__setitem__") (rest := [.ref sl, .ref e]) X I hm (.inr k_si1) k_si2 (args_list_setitem _ _ _) ?_
  show wpAny _ _ (Builtin.List.listSubscript? (.ref sl) >>= _) _ _ s
  refine slice_subscript hs ?_
  show wpAny _ _ (typeOf (.ref sl) >>= _) _ _ s
  refine wpAny_bind (wpAny_typeOf hTs ?_)
  rw [if_neg (by decide)]
  refine wpAny_bind (slice_parts hs (.int 0 t) .none .none (by simp) ?_)
  dsimp only
  have hsame : Builtin.List.listSameRef (.ref a) (.ref e) = false := hae
  rw [hsame]
  rw [if_neg (by decide)]
  refine wpAny_bind (m := Builtin.List.listAllItems _ _) ?_
  unfold Builtin.List.listAllItems
  refine wpAny_bind (wpAny_typeOf hTe ?_)
  rw [if_pos (by decide)]
  unfold Builtin.List.listItems
  refine wpAny_bind (wpAny_seqItems hoe rfl (wpAny_pure ?_))
  refine wpAny_bind (wpAny_bind (wpAny_seqItems ho rfl (wpAny_pure ?_)))
  refine wpAny_bind (wpAny_of_eq (sliceIndices_raw (some 0) none none its.size (by simp)) ?_)
  rw [bounds_all]
  dsimp only
  rw [if_pos (by decide)]
  refine wpAny_bind (wpAny_rule ?_)
  have hlong : Builtin.List.listTooLong (its.size + (#[] : Array Value).size) = false := by
    unfold Builtin.List.listTooLong sizeLine
    rw [sizeLine_eq] at hsz
    exact decide_eq_false (by simp; lia)
  rw [hlong, if_neg (by decide)]
  have hfin : (s.heap.update a (Obj.mapSeq fun xs => xs.extract 0 (0 : Int).toNat ++ #[] ++ xs.extract (max (0 : Int) (its.size : Int)).toNat xs.size)).get? a = some (airObj c.C dx #[] (if (#[] : Array Value).size == its.size then n else n + 1)) := by
    rw [Heap.get?_update_self _ ho rfl]
    have e1 : (its.extract 0 (0 : Int).toNat ++ #[] ++ its.extract (max (0 : Int) (its.size : Int)).toNat its.size) = #[] := by
      have : (max (0 : Int) (its.size : Int)).toNat = its.size := (congrArg Int.toNat (Int.max_eq_right (Int.natCast_nonneg its.size))).trans (Int.toNat_natCast _)
      rw [this]; simp
    show some (Obj.mapSeq (fun xs => xs.extract 0 (0 : Int).toNat ++ #[] ++ xs.extract (max (0 : Int) (its.size : Int)).toNat xs.size) { cls := .ref c.C, dict := some dx, data := .seq its n }) = _
    unfold Obj.mapSeq airObj
    simp only [e1]
  refine wpAny_bind ?_
  show wpAny _ _ (updateSeq a _) _ _ _
  refine wpAny_updateSeq ho rfl ?_
  refine wpAny_bind (wpAny_letGo (wpAny_pure ⟨.none, rfl, wpAny_pure ?_⟩))
  exact h _ _ hfin (Heap.SameBut.update ..)
end
end Mine
end

section
open PySem PySem.Calls PyProof.Rows PySem.W
set_option maxRecDepth 100000
namespace Mine
section
variable {prog : Program} {w : World} {c : Cfg} {K : Frag} {A : Around} {s : Shared} {X : Addr → Prop} {α : Air} {sc : List (Str × NameKind)} {N : List Str} {n : Nat}
theorem GI.turn {a dx : Addr} {h' : Heap} {tk : Nat} {vs : List Value} {its : List DV} {z : Nat} {hsh : Int} {tk' t : Tok} {ep : Nat} (ok : CfgOK c) (g : GI c s X (some a) α) (h0 : c.h₁.get? a = none) (nP : a ≠ c.P₁ ∧ a ≠ c.P₂) (hX : X a) (hs : Heap.SameBut a s.heap h') (ho : h'.get? a = some (airObj c.C dx vs.toArray z)) (ndx : ¬ X dx) (nda : dx ≠ a)
    (hd : s.heap.get? dx = some (airDict hsh tk' t ep)) (hz : vs.length ≤ 4096) (r : RelL s.heap X (some a) vs its) : GI c { s with heap := h', toks := tk } X (some a) (some its) ∧ GStep c (some a) X s.heap (some a) X h' := by
  have hk : ∀ b o, s.heap.get? b = some o → ¬ X b → h'.get? b = some o := fun b o e nx => (hs.2 b fun q => nx (q ▸ hX)).trans e
  refine ⟨⟨g.inv.same ok h0 hs, fun b hb => ?_, ⟨hX, dx, vs, z, hsh, tk', t, ep, h0, ho, ndx, nda, (hs.2 _ nda).trans hd, hz, r.mono hk (fun _ _ _ n => n) fun _ e => e⟩, g.mx⟩, ⟨fun b o e hm => (hs.2 b fun q => hm (q ▸ .inr (.inr rfl))).trans e, fun b o e => ?_, fun _ e => e, fun _ _ _ e => e, .inl rfl⟩⟩
  · by_cases q : b = a
    · exact q ▸ ⟨_, ho⟩
    · obtain ⟨ob, e⟩ := g.xb b hb
      exact ⟨ob, (hs.2 b q).trans e⟩
  · by_cases q : b = a
    · exact q ▸ ⟨_, ho⟩
    · exact ⟨o, (hs.2 b q).trans e⟩
inductive Look (c : Cfg) (h : Heap) (X : Addr → Prop) (a : Addr) (α : Air) : Prop
  | mk (dx : Addr) (vs : List Value) (z : Nat) (hsh : Int) (tk t : Tok) (ep : Nat) (its : List DV) (e : α = some its) (hX : X a) (h1 : c.h₁.get? a = none) (ho : h.get? a = some (airObj c.C dx vs.toArray z)) (ndx : ¬ X dx) (nda : dx ≠ a) (hdx : h.get? dx = some (airDict hsh tk t ep)) (hz : vs.length ≤ 4096) (rl : RelL h X (some a) vs its) : Look c h X a α
theorem GI.look {a : Addr} (g : GI c s X (some a) α) : Look c s.heap X a α := by
  have := g.air
  unfold AirOK at this
  cases α with
  | none => cases this
  | some its =>
    obtain ⟨hX, dx, vs, z, hsh, tk, t, ep, h0, h1, h2, h3, h4, h5, h6⟩ := this
    exact ⟨dx, vs, z, hsh, tk, t, ep, its, rfl, hX, h0, h1, h2, h3, h4, h5, h6⟩
theorem GI.nP {a : Addr} (ok : CfgOK c) (h0 : c.h₁.get? a = none) : a ≠ c.P₁ ∧ a ≠ c.P₂ := by
  obtain ⟨_, e1⟩ := ok.p₁
  obtain ⟨_, e2⟩ := ok.p₂
  exact ⟨fun q => (by rw [q, e1] at h0; cases h0), fun q => (by rw [q, e2] at h0; cases h0)⟩
noncomputable def shadowOk (name : Str) : Bool := !(("_initial_size" : Str) == name)
theorem shadow_of {name : Str} {hsh : Int} {tk t : Tok} {ep : Nat} (h : (Value.str ("_initial_size" : Str) 0).isStr name = false) : shadowIn (some (airDict hsh tk t ep)) name = some false := by
  have h' : (Value.str ("_initial_size" : Str) tk).isStr name = false := h
  unfold shadowIn lookIn airDict
  simp [h', DictEntry.refKey]
noncomputable def gApp (f₀ : List DV → Option DV) (f : List DV → Air → Option (DV × Air)) : List DV → Air → Option (DV × Air) := fun ρ α => (f₀ ρ).bind fun d => match d with
  | .air => (f ρ α).bind fun p => p.2.bind fun its => if its.length + 1 ≤ 4096 then some (.none, some (its ++ [p.1])) else none
  | _ => none
theorem ge_app {ob e : Expr} {apos pos : Pos} {f₀ : List DV → Option DV} {f : List DV → Air → Option (DV × Air)} (ok : CfgOK c) (k : AirK c K) (h₀ : SE prog w c sc N ob f₀) (hf : GE prog w c sc N n e f)
    (hbase : ∀ env, attributeBase ob "append" env (eval ob env) = eval ob env := by intro _; rfl) (hline : (apos.endLine == pos.line) = true := by rfl) (hform : ∀ env, methodCallForm ([e].length + ([] : List Keyword).length) (backTo pos (starEach [e] env)) [] = true := by intro _; rfl)
    (hst : ∀ env, starEach [e] env = (false, eval e env) :: starEach [] env := by intro _; rfl) (hpl : ∀ env pos, (backTo pos (starEach [] env)).any (·.1) = false := by intro _ _; rfl) :
    GE prog w c sc N n (.Call (.Attribute ob "append" apos) [e] [] pos) (gApp f₀ f) := by
  intro A env s X aA α ρ m cm d α' he hA g of hn hd Q E h
  obtain ⟨d₀, hd₀, hd⟩ := obind hd
  split at hd
  · obtain ⟨⟨d₁, α₁⟩, hd₁, hd⟩ := obind hd
    obtain ⟨its, hits, hd⟩ := obind hd
    split at hd
    · rename_i hlen
      cases hd
      dsimp only at hits hlen
      subst hits
      refine method_raw (hbase env) (hform env) hline (h₀ A env s X aA ρ m cm _ he hA.rm g.inv.glo g.xb hn hd₀ _ _ fun v₀ h₁ tk₁ r₀ k₁ pl => ?_)
      cases r₀ using Rel.airC with
      | @air a ha =>
        subst ha
        have g₁ := g.pure (tk := tk₁) k₁
        obtain ⟨dx, vs, z, hsh, tk, t, ep, its₀, _, hX, h0, ho, ndx, nda, hdx, hz, rl⟩ := g₁.look
        refine method_md (k.at g₁.inv.glo) (inst_of (c := c) ho hdx) k.ga k.gk k.app F.type_list_append (shadow_of (by decide +kernel)) ?_
        refine PyProof.Rows.callWith_method1 (wpAny_items_cons ?_ (hst _)) (hst _) (hpl _ _)
        refine hf A env _ X _ α ρ m cm d₁ _ he hA g₁ of (hn.keeps k₁) hd₁ _ _ fun v₁ s₂ aA₂ X₂ r₁ st₂ g₂ => wpAny_items_nil ?_
        have e₂ : aA₂ = some a := st₂.ha a rfl
        subst e₂
        obtain ⟨dx, vs, z, hsh, tk, t, ep, its₁, e, hX, h0, ho, ndx, nda, hdx, hz, rl⟩ := g₂.look
        cases e
        have hl := rl.length
        have hl4 : its.length + 1 ≤ 4096 := hlen
        refine inst_append (c := c) (k.at g₂.inv.glo) k.sub ho hdx (by simp; exact lt_sizeLine (by have : sizeB = 1048576 := rfl; lia)) fun h' n' ho' hs' => ?_
        obtain ⟨g₃, st₃⟩ := g₂.turn (tk := s₂.toks) (vs := vs ++ [v₁]) (its := its ++ [d₁]) ok h0 (GI.nP ok h0) hX hs' (by simpa using ho') ndx nda hdx (by simp; lia) (rl.append (.cons r₁ .nil))
        exact h _ { s₂ with heap := h' } (some a) X₂ .none (((GStep.pure k₁).trans st₂).trans st₃) g₃
    · cases hd
  · cases hd
end
end Mine
end

section
open PySem PySem.Calls PyProof.Rows PySem.W
set_option maxRecDepth 100000
namespace Mine
section
variable {prog : Program} {w : World} {c : Cfg} {K : Frag} {A : Around} {s : Shared} {X : Addr → Prop} {α : Air} {sc : List (Str × NameKind)} {N : List Str} {n : Nat}
theorem inst_tail {E : Value → Shared → Prop} {value slice : Expr} {a C : Addr} {ox : Obj} {od : Option Obj} {i : Value} {ops : List Value} {id : String} {Q : Value → Shared → Prop} (X : K.In s.heap) (I : InstAt s.heap a ox C od) (hgi : findIn K (.ref C) "__getitem__" = some (some (.builtin id))) (hg : wpAny (model prog w) A (getItem (.ref a) i) Q E s)
    (hs : subscripted slice false (.ref a) i = operate ops (getItem (.ref a) i)) : wpAny (model prog w) A (subscriptTail value slice (.ref a) i) Q E s := by
  unfold subscriptTail getitemInPython
  refine wpAny_bind ?_
  refine wpAny_bind (wpAny_bind (I.type.here ((looks_findIn X hgi).here ?_)))
  have fin : wpAny (model prog w) A (subscripted slice false (.ref a) i) (fun r s₃ => wpAny (model prog w) A (letTemporaryGo value (.ref a) r >>= fun _ => pure r) Q E s₃) E s := by
    rw [hs]
    exact wpAny_operating (wpAny_mono hg (fun r s₃ h₃ => wpAny_bind (wpAny_letTemporaryGo (wpAny_pure h₃))) fun _ _ x => x)
  exact wpAny_pure (wpAny_bind fin)
noncomputable def isZero : DV → Bool
  | .int i => i == 0
  | _ => false
noncomputable def gFrom (f₀ f : List DV → Option DV) : List DV → Air → Option (DV × Air) := fun ρ α => (f₀ ρ).bind fun d => match d with
  | .air => (f ρ).bind fun z => if isZero z then α.map fun its => (.lst its, some its) else none
  | _ => none
theorem ge_from {ob e : Expr} {p pos : Pos} {f₀ f : List DV → Option DV} (k : AirK c K) (h₀ : SE prog w c sc N ob f₀) (hf : SE prog w c sc N e f) : GE prog w c sc N n (.Subscript ob (.Slice (some e) none none p) pos) (gFrom f₀ f) := by
  intro A env s X aA α ρ m cm d α' he hA g of hn hd Q E h
  obtain ⟨d₀, hd₀, hd⟩ := obind hd
  split at hd
  · obtain ⟨z, hz, hd⟩ := obind hd
    split at hd
    · rename_i hz0
      obtain ⟨its, hits, e⟩ := omap hd
      cases e
      subst hits
      refine Subscript_ (h₀ A env s X aA ρ m cm _ he hA.rm g.inv.glo g.xb hn hd₀ _ _ fun v₀ h₁ tk₁ r₀ k₁ => ?_)
      have g₁ := g.pure (tk := tk₁) k₁
      cases r₀ using Rel.airC with
      | @air a ha =>
        subst ha
        refine wpAny_Slice (evalPart_some_step (hf A env _ X _ ρ m cm z he hA.rm g₁.inv.glo g₁.xb (hn.keeps k₁) hz _ _ fun v₂ h₂ tk₂ r₂ k₂ => ?_))
        rw [evalPart_none]
        refine wpAny_pure (wpAny_pure ?_)
        unfold isZero at hz0
        split at hz0
        · rename_i j
          cases r₂ with
          | int _ t =>
            have hj : j = 0 := by simpa using hz0
            subst hj
            have kp : ∀ b o, h₂.get? b = some o → (h₂.push { cls := .type "slice", data := .fields #[.int 0 t, .none, .none] }).get? b = some o := fun b o e => Heap.get?_push_of_some _ e
            have g₂ := (g₁.pure (tk := tk₂) k₂).pure (tk := tk₂) kp
            obtain ⟨dx, vs, z, hsh, tk, t', ep, its₁, e, hX, h0, ho, ndx, nda, hdx, hz', rl⟩ := g₂.look
            cases e
            have hl := rl.length
            refine inst_tail (ops := [.ref h₂.objs.size, .ref a]) (k.at g₂.inv.glo) (inst_of (c := c) ho hdx) k.gi ?_ rfl
            refine inst_from (c := c) (k.at g₂.inv.glo) k.sub k.nq k.gi ho hdx (by simp; exact lt_sizeLine (by have : sizeB = 1048576 := rfl; lia)) (Heap.IsSliceOf.new ..) ?_
            have kl : ∀ b o, (h₂.push { cls := .type "slice", data := .fields #[.int 0 t, .none, .none] }).get? b = some o → ((h₂.push { cls := .type "slice", data := .fields #[.int 0 t, .none, .none] }).push { cls := .type "list", data := .seq vs.toArray }).get? b = some o := fun b o e => Heap.get?_push_of_some _ e
            exact h _ _ (some a) X (.lst (g₂.xb.fresh (Nat.le_refl _)) ⟨_, Heap.get?_push_size _ rfl⟩ (by have : sizeB = 1048576 := rfl; lia) (rl.keeps kl)) ((((GStep.pure k₁).trans (GStep.pure k₂)).trans (GStep.pure kp)).trans (GStep.pure kl)) (g₂.pure (tk := tk₂) kl)
        · cases hz0
    · cases hd
  · cases hd
noncomputable def kClear (f₀ f : List DV → Option DV) : SF := fun σ => (f₀ σ.ρ).bind fun d => match d with
  | .air => (f σ.ρ).bind fun z => if isZero z then σ.air.map fun _ => (.next, { ρ := σ.ρ, own := σ.own, air := some [] }) else none
  | _ => none
theorem sx_clear {ob e : Expr} {lp p ps pos : Pos} {f₀ f : List DV → Option DV} (ok : CfgOK c) (k : AirK c K) (h₀ : SE prog w c sc N ob f₀) (hf : SE prog w c sc N e f)
    (hs : ∀ env, swapsWith (.List [] lp) (some (.Subscript ob (.Slice (some e) none none p) ps)) pos.line env = pure false := by intro _; rfl) : SX prog w c sc N n (.Assign [.Subscript ob (.Slice (some e) none none p) ps] (.List [] lp) pos) (kClear f₀ f) := by
  intro A env s σ o aA X fl σ' he hA fi hF Q E h
  obtain ⟨d₀, hd₀, hF⟩ := obind hF
  split at hF
  · obtain ⟨z, hz, hF⟩ := obind hF
    split at hF
    · rename_i hz0
      obtain ⟨its, hits, e⟩ := omap hF
      cases e
      obtain ⟨m, cm, hn, _⟩ := fi.nm
      refine wpAny_Assign_Subscript (wpAny_List (wpAny_items_nil ?_)) (hs env)
      have k₀ : ∀ b o, s.heap.get? b = some o → (s.heap.push { cls := .type "list", data := .seq ([] : List Value).toArray }).get? b = some o := fun _ _ e => Heap.get?_push_of_some _ e
      refine ⟨by simp, ?_⟩
      have fi₀ := fi.pure (tk := s.toks) k₀
      refine h₀ A env _ X aA σ.ρ m cm _ he hA.rm fi₀.inv.glo fi₀.xb (hn.keeps k₀) hd₀ _ _ fun v₀ h₁ tk₁ r₀ k₁ => ?_
      have fi₁ := fi₀.pure (tk := tk₁) k₁
      cases r₀ using Rel.airC with
      | @air a ha =>
        subst ha
        refine wpAny_Slice (evalPart_some_step (hf A env _ X _ σ.ρ m cm z he hA.rm fi₁.inv.glo fi₁.xb ((hn.keeps k₀).keeps k₁) hz _ _ fun v₂ h₂ tk₂ r₂ k₂ => ?_))
        rw [evalPart_none]
        refine wpAny_pure (wpAny_pure ?_)
        unfold isZero at hz0
        split at hz0
        · rename_i j
          cases r₂ with
          | int _ t =>
            have hj : j = 0 := by simpa using hz0
            subst hj
            have kp : ∀ b o, h₂.get? b = some o → (h₂.push { cls := .type "slice", data := .fields #[.int 0 t, .none, .none] }).get? b = some o := fun b o e => Heap.get?_push_of_some _ e
            have fi₂ := (fi₁.pure (tk := tk₂) k₂).pure (tk := tk₂) kp
            have g₂ := fi₂.gi
            obtain ⟨dx, vs, z, hsh, tk, t', ep, its₁, e, hX, h0, ho, ndx, nda, hdx, hz', rl⟩ := g₂.look
            have hl := rl.length
            refine inst_clear (c := c) (k.at g₂.inv.glo) k.sub k.nq k.si ho hdx (by simp; exact lt_sizeLine (by have : sizeB = 1048576 := rfl; lia)) (Heap.IsSliceOf.new ..) ⟨0, kp _ _ (k₂ _ _ (k₁ _ _ (Heap.get?_push_size _ rfl)))⟩ fun h' n' ho' hs' => ?_
            obtain ⟨g₃, st₃⟩ := g₂.turn (tk := tk₂) (vs := []) (its := []) ok h0 (GI.nP ok h0) hX hs' ho' ndx nda hdx (by simp) .nil
            have fi₃ := fi₂.gstep (s' := { s with heap := h', toks := tk₂ }) st₃ g₃
            exact h _ { s with heap := h', toks := tk₂ } o (some a) X .next (SStep.of (((((GStep.pure k₀).trans (GStep.pure k₁)).trans (GStep.pure k₂)).trans (GStep.pure kp)).trans st₃)) fi₃
        · cases hz0
    · cases hF
  · cases hF
end
end Mine
end

section
open PySem PySem.Calls PyProof.Rows PySem.W
set_option maxRecDepth 100000
namespace Mine
section
variable {prog : Program} {w : World} {c : Cfg} {K : Frag} {A : Around} {s : Shared} {X : Addr → Prop} {α : Air} {sc : List (Str × NameKind)} {N : List Str} {n : Nat}
noncomputable def gMethA (F : List DV → Air → Option (DV × Air)) (f₀ : List DV → Option DV) (g : List DV → Air → Option (List DV × Air)) : List DV → Air → Option (DV × Air) := fun ρ α => (f₀ ρ).bind fun d => match d with
  | .air => (g ρ α).bind fun p => F (.air :: p.1) p.2
  | _ => none
structure MethAt (c : Cfg) (K : Frag) (name : Str) (f : Addr) (o : Obj) (fd : FuncData) : Prop where
  find : findIn K (.ref c.C) name = some (some (.ref f))
  typ : typeIn K (.ref f) = some (.type "function")
  ob : c.h₁.get? f = some o
  data : o.data = .func fd
  off : f ≠ c.P₁ ∧ f ≠ c.P₂
  sh : (Value.str ("_initial_size" : Str) 0).isStr name = false
theorem ge_methA {ob : Expr} {es : List Expr} {name : Str} {apos pos : Pos} {f : Addr} {o : Obj} {fd : FuncData} {F : List DV → Air → Option (DV × Air)} {f₀ : List DV → Option DV} {g : List DV → Air → Option (List DV × Air)} (k : AirK c K) (mt : MethAt c K name f o fd) (hF : FnOK prog w c f n F) (h₀ : SE prog w c sc N ob f₀) (hg' : GL prog w c sc N n es g)
    (hbase : ∀ env, attributeBase ob name env (eval ob env) = eval ob env := by intro _; rfl) (hline : (apos.endLine == pos.line) = true := by rfl) (hform : ∀ env, methodCallForm (es.length + ([] : List Keyword).length) (backTo pos (starEach es env)) [] = true := by intro _; rfl)
    (hev : ∀ (A : Around) env (s : Shared) (Q : Args → Shared → Prop) (E : Value → Shared → Prop), wpAny (model prog w) A (spliced (backTo pos (starEach es env))) (fun vs s₁ => Q ⟨vs, []⟩ s₁) E s → wpAny (model prog w) A (evalArgs (.ref f) true (backTo pos (starEach es env)) []) Q E s) :
    GE prog w c sc N n (.Call (.Attribute ob name apos) es [] pos) (gMethA F f₀ g) := by
  intro A env s X aA α ρ m cm d α' he hA g₀ of hn hd Q E h
  obtain ⟨d₀, hd₀, hd⟩ := obind hd
  split at hd
  · obtain ⟨⟨ds, α₁⟩, hds, hd⟩ := obind hd
    refine method_raw (hbase env) (hform env) hline (h₀ A env s X aA ρ m cm _ he hA.rm g₀.inv.glo g₀.xb hn hd₀ _ _ fun v₀ h₁ tk₁ r₀ k₁ pl => ?_)
    cases r₀ using Rel.airC with
    | @air a ha =>
      subst ha
      have g₁ := g₀.pure (tk := tk₁) k₁
      obtain ⟨dx, vs, z, hsh, tk, t, ep, its₀, _, hX, h0, ho, ndx, nda, hdx, hz, rl⟩ := g₁.look
      refine method_own (k.at g₁.inv.glo) (inst_of (c := c) ho hdx) k.ga k.gk mt.find mt.typ (shadow_of mt.sh) ?_
      refine Calls.callWith_function (o := o) (fd := fd) (hev _ _ _ _ _ ?_)
      refine hg' A env _ X _ α ρ m cm ds α₁ pos he hA g₁ of (hn.keeps k₁) hds _ _ fun vs s₂ aA₂ X₂ r₁ st₂ g₂ => ⟨⟨g₂.inv.glo.keep _ _ mt.ob mt.off.1 mt.off.2, mt.data⟩, ?_⟩
      have e₂ : aA₂ = some a := st₂.ha a rfl
      subst e₂
      exact hF A s₂ X₂ _ α₁ (.ref a :: vs) _ d α' hA g₂ (.cons (.air rfl) r₁) hd _ _ fun v s₃ aA₃ X₃ r₃ st₃ g₃ => h v s₃ aA₃ X₃ r₃ (((GStep.pure k₁).trans st₂).trans st₃) g₃
  · cases hd
theorem hev0 {f : Addr} {pos : Pos} : ∀ (A : Around) env (s : Shared) (Q : Args → Shared → Prop) (E : Value → Shared → Prop), wpAny (model prog w) A (spliced (backTo pos (starEach [] env))) (fun vs s₁ => Q ⟨vs, []⟩ s₁) E s → wpAny (model prog w) A (evalArgs (.ref f) true (backTo pos (starEach [] env)) []) Q E s := by
  intro A env s Q E h
  show wpAny _ _ (evalArgs (.ref f) true [] []) Q E s
  unfold evalArgs
  show wpAny _ A (spliced [] >>= _) Q E s
  refine wpAny_bind (wpAny_mono h (fun vs s₁ h₁ => ?_) fun _ _ x => x)
  first
    | exact wpAny_bind (wpAny_pure (wpAny_holding (wpAny_bind (wpAny_pure (wpAny_bind (wpAny_pure (wpAny_pure h₁)))))))
    | exact wpAny_holding (wpAny_bind (wpAny_pure (wpAny_bind (wpAny_pure (wpAny_pure h₁)))))
theorem hev1 {f : Addr} {pos : Pos} {e : Expr} {es : List Expr} (hst : ∀ env, starEach (e :: es) env = (false, eval e env) :: starEach es env := by intro _; rfl) : ∀ (A : Around) env (s : Shared) (Q : Args → Shared → Prop) (E : Value → Shared → Prop), wpAny (model prog w) A (spliced (backTo pos (starEach (e :: es) env))) (fun vs s₁ => Q ⟨vs, []⟩ s₁) E s → wpAny (model prog w) A (evalArgs (.ref f) true (backTo pos (starEach (e :: es) env)) []) Q E s := by
  intro A env s Q E h
  rw [hst] at h ⊢
  exact Calls.evalArgs_plain h
end
end Mine
end

section
open PySem PySem.Calls PyProof.Rows PySem.W
set_option maxRecDepth 100000
namespace Mine
section
variable {prog : Program} {w : World} {c : Cfg} {K : Frag} {A : Around} {s : Shared} {X : Addr → Prop} {α : Air} {sc : List (Str × NameKind)} {N : List Str} {n : Nat}
theorem RmN.in1 {A : Around} {n : Nat} (r : RmN A (n + 1)) : RmN A.in1 n := ⟨r.handled, by have := r.depth; show A.depth + n < recursionLimit; lia, by have := r.units; show A.units + 1 + 40 + 8 * n < cLine; lia⟩
structure SpecAt (c : Cfg) (K : Frag) (name : Str) (f : Addr) : Prop where
  find : findIn K (.ref c.C) name = some (some (.ref f))
  typ : typeIn K (.ref f) = some (.type "function")
noncomputable def gLen (F : List DV → Air → Option (DV × Air)) (f₀ : List DV → Option DV) : List DV → Air → Option (DV × Air) := fun ρ α => (f₀ ρ).bind fun d => match d with
  | .air => (F [.air] α).bind fun p => match p.1 with
    | .int i => if 0 ≤ i ∧ i < 2 ^ 63 then some (.int i, p.2) else none
    | _ => none
  | _ => none
theorem ge_len {x : Str} {np pos : Pos} {ob : Expr} {f : Addr} {F : List DV → Air → Option (DV × Air)} {f₀ : List DV → Option DV} (k : AirK c K) (sp : SpecAt c K "__len__" f) (hF : FnOK prog w c f n F) (h₀ : SE prog w c sc N ob f₀) (hk : sc.lookup x = some .globalImplicit) (hn : c.mg x = none) (hv : c.mb x = some (.builtin "len"))
    (hd : (x == ("__debug__" : Str)) = false := by decide +kernel) (hst : ∀ env, starEach [ob] env = (false, eval ob env) :: starEach [] env := by intro _; rfl) (hpl : ∀ env pos, (backTo pos (starEach [] env)).any (·.1) = false := by intro _ _; rfl) :
    GE prog w c sc N (n + 1) (.Call (.Name x np) [ob] [] pos) (gLen F f₀) := by
  intro A env s X aA α ρ m cm d α' he hA g₀ of hn' hd' Q E h
  obtain ⟨d₀, hd₀, hd'⟩ := obind hd'
  split at hd'
  · obtain ⟨⟨r, α₁⟩, hr, hd'⟩ := obind hd'
    refine wpAny_Call_NameR (load_builtin he g₀.inv.glo hk hn hv hd (PyProof.Rows.callWith_builtin1 (wpAny_items_cons ?_ (hst _)) (hst _) (hpl _ _)))
    refine h₀ A env s X aA ρ m cm _ he hA.rm g₀.inv.glo g₀.xb hn' hd₀ _ _ fun v₀ h₁ tk₁ r₀ k₁ => wpAny_items_nil ?_
    cases r₀ using Rel.airC with
    | @air a ha =>
      subst ha
      have g₁ := g₀.pure (tk := tk₁) k₁
      obtain ⟨dx, vs, z, hsh, tk, t, ep, its₀, _, hX, h0, ho, ndx, nda, hdx, hz, rl⟩ := g₁.look
      refine Calls.call_function_entry kind_len plain_len entry_len (args_len1 _) ?_
      unfold Builtin.«len»
      refine wpAny_bind (m := oneArg "len" _) (wpAny_pure ?_)
      refine wpAny_bind (m := callSpecial? (.ref a) (Str.ofString "__len__")) (special_fn (k.at g₁.inv.glo) (inst_of (c := c) ho hdx) sp.find sp.typ ?_)
      refine hF A.in1 _ X _ α [.ref a] [.air] r α₁ hA.in1 g₁ (.cons (.air rfl) .nil) hr _ _ fun v₂ s₂ aA₂ X₂ r₂ st₂ g₂ => ?_
      split at hd'
      · rename_i i hi
        split at hd'
        · rename_i hb
          cases hd'
          dsimp only at hi
          subst hi
          cases r₂ with
          | int _ u =>
            refine wpAny_bind (wpAny_holding (wpAny_pure ?_))
            refine wpAny_bind (wpAny_letGo ?_)
            show wpAny _ _ (if i < 0 then _ else _) _ _ _
            rw [if_neg (by lia)]
            show wpAny _ _ (if i ≥ 2 ^ 63 then _ else _) _ _ _
            rw [if_neg (by lia)]
            have kk : ∀ b o, s₂.heap.get? b = some o → s₂.heap.get? b = some o := fun _ _ e => e
            exact wpAny_bind (wpAny_mkInt (wpAny_pure ⟨_, rfl, h _ { s₂ with toks := s₂.toks + 1 } aA₂ X₂ (.int _ _) ((GStep.pure k₁).trans st₂) (g₂.pure (tk := s₂.toks + 1) kk)⟩))
        · cases hd'
      · cases hd'
  · cases hd'
noncomputable def gStr (F : List DV → Air → Option (DV × Air)) (f₀ : List DV → Option DV) : List DV → Air → Option (DV × Air) := fun ρ α => (f₀ ρ).bind fun d => match d with
  | .air => (F [.air] α).bind fun p => match p.1 with
    | .str x => some (.str x, p.2)
    | _ => none
  | _ => none
theorem strOf_inst {A : Around} {s : Shared} {aA : Option Addr} {a f : Addr} {F : List DV → Air → Option (DV × Air)} {x : Str} {α' : Air} (k : AirK c K) (sp : SpecAt c K "__str__" f) (hF : FnOK prog w c f n F) (hA : RmN A (n + 2)) (g : GI c s X aA α) (ha : aA = some a) (hr : F [.air] α = some (.str x, α')) {Q : Value → Shared → Prop} {E : Value → Shared → Prop}
    (h : ∀ t s' X', x.length ≤ sizeB → GStep c aA X s.heap aA X' s'.heap → GI c s' X' aA α' → Q (.str x t) s') : wpAny (model prog w) A.in1.in1 (Builtin.Str.strOf (.ref a)) Q E s := by
  subst ha
  obtain ⟨dx, vs, z, hsh, tk, t, ep, its₀, _, hX, h0, ho, ndx, nda, hdx, hz, rl⟩ := g.look
  unfold Builtin.Str.strOf
  show wpAny _ _ (if false = true then _ else _) _ _ _
  rw [if_neg (by decide)]
  refine wpAny_bind (m := cRoomFor _ _) (wpAny_cRoomFor (by have := hA.units; show A.units + 1 + 1 < cLine; lia) ?_)
  refine wpAny_bind (m := callSpecial? (.ref a) (Str.ofString "__str__")) (special_fn (k.at g.inv.glo) (inst_of (c := c) ho hdx) sp.find sp.typ ?_)
  refine hF A.in1.in1 s X _ α [.ref a] [.air] _ α' hA.in1.in1 g (.cons (.air rfl) .nil) hr _ _ fun v₂ s₂ aA₂ X₂ r₂ st₂ g₂ => ?_
  have e₂ : aA₂ = some a := st₂.ha a rfl
  subst e₂
  cases r₂ with
  | str _ u hl =>
    first
      | exact wpAny_bind (wpAny_pure (wpAny_pure (h u s₂ X₂ hl st₂ g₂)))
      | exact wpAny_bind (wpAny_pure (by simpa using wpAny_pure (h u s₂ X₂ hl st₂ g₂)))
end
section
variable {prog : Program} {w : World} {c : Cfg} {K : Frag} {sc : List (Str × NameKind)} {N : List Str} {n : Nat}
theorem ge_str {x : Str} {np pos : Pos} {ob : Expr} {f : Addr} {F : List DV → Air → Option (DV × Air)} {f₀ : List DV → Option DV} (k : AirK c K) (sp : SpecAt c K "__str__" f) (hF : ∀ prog w, FnOK prog w c f n F) (h₀ : SE prog w c sc N ob f₀) (hk : sc.lookup x = some .globalImplicit) (hn : c.mg x = none) (hv : c.mb x = some (.type "str"))
    (hd : (x == ("__debug__" : Str)) = false := by decide +kernel) (hst : ∀ env, starEach [ob] env = (false, eval ob env) :: starEach [] env := by intro _; rfl) (hpl : ∀ env pos, (backTo pos (starEach [] env)).any (·.1) = false := by intro _ _; rfl) :
    GE prog w c sc N (n + 3) (.Call (.Name x np) [ob] [] pos) (gStr F f₀) := by
  intro A env s X aA α ρ m cm d α' he hA g₀ of hn' hd' Q E h
  obtain ⟨d₀, hd₀, hd'⟩ := obind hd'
  split at hd'
  · obtain ⟨⟨r, α₁⟩, hr, hd'⟩ := obind hd'
    refine wpAny_Call_NameR (load_builtin he g₀.inv.glo hk hn hv hd (PyProof.Rows.callWith_type1 (wpAny_items_cons ?_ (hst _)) (hst _) (hpl _ _)))
    refine h₀ A env s X aA ρ m cm _ he hA.rm g₀.inv.glo g₀.xb hn' hd₀ _ _ fun v₀ h₁ tk₁ r₀ k₁ => wpAny_items_nil ?_
    split at hd'
    · rename_i y hy
      cases hd'
      dsimp only at hy
      subst hy
      cases r₀ using Rel.airC with
      | @air a ha =>
        have g₁ := g₀.pure (tk := tk₁) k₁
        refine callType_new PySem.F.called_str (by decide) (PySem.F.typeCall_str_1 _) (PySem.F.newCall_str_1 _) (fun obj => PySem.F.args_object_init_2 obj _) PySem.F.entry_str_new
          (meets_str_new (S := fun A' R s' => ∀ (prog : Program) (w : World), wpAny (model prog w) A'.in1 (Builtin.Str.strOf (.ref a)) (fun r s'' => R (.ok (.ret r)) s'') (fun e s'' => R (.error e) s'') s') fun prog' w' A' R s' h => h prog' w') fun prog' w' => ?_
        exact strOf_inst k sp (hF prog' w') (hA.le (by lia)) g₁ ha hr fun t s₂ X₂ hl st₂ g₂ => ⟨typeIs_str _ _ _, h _ s₂ aA X₂ (.str _ _ hl) ((GStep.pure k₁).trans st₂) g₂⟩
    · cases hd'
  · cases hd'
end
end Mine
end

section
open PySem PySem.Calls PyProof.Rows PySem.W
set_option maxRecDepth 100000
namespace Mine
section
variable {prog : Program} {w : World} {c : Cfg} {K : Frag} {A : Around} {s : Shared}
theorem k_it1 : builtinKind "list.__iter__" = some .slot := by decide +kernel
theorem k_it2 : splitId "list.__iter__" = some ("list", "__iter__") := by decide +kernel
theorem inst_ifBound {M : Model} {A : Around} {E : Value → Shared → Prop} {x C : Addr} {ox : Obj} {od : Option Obj} {name : Str} {id : String} {T : String} {refuse : Sem Value} {Q : Option Value → Shared → Prop} (X : K.In s.heap) (I : InstAt s.heap x ox C od) (hf : findIn K (.ref C) name = some (some (.builtin id))) (S : Slot T name id)
    (hc : wpAny M A (call (.builtin id) [.ref x]) (fun v => Q (some v)) E s) : wpAny M A (callSpecialIfBoundUnlessNone? (.ref x) name refuse) Q E s := by
  simp only [callSpecialIfBoundUnlessNone?, bindSpecialIfBound?, specialOf]
  refine wpAny_holding (wpAny_bind (wpAny_bind (wpAny_bind (I.type.here ((looks_findIn X hf).here ?_)))))
  simp only [S.bind]
  refine wpAny_bind (wpAny_askSetting (wpAny_ite ?_))
  have fin : wpAny M A (if (Value.builtin id == Value.none) = true then (refuse >>= fun v => pure (some v)) else (call (.builtin id) [.ref x] >>= fun v => pure (some v))) Q E s := by
    simp only [builtin_beq_none, Bool.false_eq_true, if_false]
    exact wpAny_bind (wpAny_mono hc (fun v s' h' => wpAny_pure h') fun _ _ h' => h')
  split
  · exact wpAny_bind (wpAny_pure (wpAny_pure fin))
  · exact wpAny_tryCatch (wpAny_bind (wpAny_pure (wpAny_pure fin)))
theorem inst_iter {E : Value → Shared → Prop} {x C : Addr} {ox : Obj} {od : Option Obj} {Q : Value → Shared → Prop} (X : K.In s.heap) (I : InstAt s.heap x ox C od) (hm : mroIn K C (.type "list") = some true) (hf : findIn K (.ref C) "__iter__" = some (some (.builtin "list.__iter__")))
    (h : Q (.ref s.heap.objs.size) { s with heap := s.heap.push { cls := .type "list_iterator", data := .fields #[.ref x, .int 0 0] } }) : wpAny (model prog w) A (pyIter (.ref x)) Q E s := by
  unfold pyIter
  refine wpAny_bind (wpAny_bind (I.type.here ((looks_findIn X hf).here ?_)))
  show wpAny _ A (callSpecialIfBoundUnlessNone? (.ref x) "__iter__" _ >>= _) Q E s
  refine wpAny_bind (inst_ifBound X I hf slot_list_iter (call_inst slot_list_iter.plain entry_list_iter (inst_check (i := "list.__iter__") (n := "__iter__") (rest := []) X I hm (.inr k_it1) k_it2 (args_list_iter _) ?_)))
  show wpAny _ _ (do ret (← newFields "list_iterator" [.ref x, rawInt 0])) _ _ s
  refine wpAny_bind (wpAny_newObj_type (wpAny_pure ⟨_, rfl, ?_⟩))
  exact wpAny_bind (wpAny_specialOf ⟨_, Heap.get?_push_size _ rfl, rfl⟩ slot_listiter_next.lookup (wpAny_pure h))
noncomputable def SeqAt (h : Heap) (l : Addr) (items : Array Value) : Prop := ∃ o, h.get? l = some o ∧ ∃ n, o.data = .seq items n
theorem SeqAt.at {h h' : Heap} {l : Addr} {items : Array Value} (x : SeqAt h l items) (e : ∀ o, h.get? l = some o → h'.get? l = some o) : SeqAt h' l items := let ⟨o, ho, r⟩ := x; ⟨o, e _ ho, r⟩
theorem step_item {A : Around} {E : Value → Shared → Prop} {s : Shared} {it l : Addr} {i : Nat} {items : Array Value} {x : Value} {Q : Value → Shared → Prop} (hit : s.heap.IsListIter it l i) (hl : SeqAt s.heap l items) (hx : items[i]? = some x)
    (hQ : ∀ h', h'.IsListIter it l (i + 1) → Heap.SameBut it s.heap h' → Q x { s with heap := h' }) : wpAny (model prog w) A (call (.builtin "list_iterator.__next__") [.ref it]) Q E s := by
  obtain ⟨o, ho, hc, hd⟩ := id hit
  obtain ⟨ol, hol, nl, hdl⟩ := hl
  refine wpAny_call_entry slot_listiter_next hit.typeIs entry_listiter_next ?_ (args_listiter_next _)
  show wpAny _ _ (field (.ref it) 0 >>= _) _ _ s
  refine wpAny_bind (wpAny_field ho hd (x := .ref l) rfl ?_)
  show wpAny _ _ (if (Value.ref l == Value.none) = true then _ else _) _ _ s
  rw [if_neg (show ¬ ((Value.ref l == Value.none) = true) from Bool.false_ne_true)]
  show wpAny _ _ (field (.ref it) 1 >>= _) _ _ s
  refine wpAny_bind (wpAny_field ho hd (x := .int i 0) rfl ?_)
  show wpAny _ _ (seqItems? (.ref l) >>= _) _ _ s
  refine wpAny_bind (wpAny_seqItems hol hdl ?_)
  simp only [Int.toNat_natCast, hx]
  refine wpAny_bind (wpAny_setField ho hd (by simp) (wpAny_pure ⟨x, rfl, hQ _ ?_ (Heap.SameBut.update ..)⟩))
  exact ⟨_, Heap.get?_update_self _ ho (Obj.isFreed_of_fields (Obj.data_mapFields hd _)), (Obj.cls_mapFields ..).trans hc, by
    rw [Obj.data_mapFields hd]; simp [rawInt]⟩
theorem next_item {A : Around} {E : Value → Shared → Prop} {it l : Addr} {i : Nat} {items : Array Value} {x : Value} {Q : Option Value → Shared → Prop} (hit : s.heap.IsListIter it l i) (hl : SeqAt s.heap l items) (hx : items[i]? = some x)
    (hQ : ∀ h', h'.IsListIter it l (i + 1) → Heap.SameBut it s.heap h' → Q (some x) { s with heap := h' }) : wpAny (model prog w) A (pyNext (.ref it)) Q E s := by
  unfold pyNext
  refine wpAny_bind (wpAny_attempt (wpAny_callSpecial?_slot (name := Str.ofString "__next__") hit.typeIs slot_listiter_next (step_item hit hl hx fun h' h1 h2 => ?_)))
  exact wpAny_pure (hQ h' h1 h2)
theorem next_end {A : Around} {E : Value → Shared → Prop} {it l : Addr} {i : Nat} {items : Array Value} {Q : Option Value → Shared → Prop} (hh : A.handled = none) (hit : s.heap.IsListIter it l i) (hl : SeqAt s.heap l items) (hx : items[i]? = none)
    (hQ : ∀ h', Heap.ExtBut it s.heap h' → Q none { s with heap := h' }) : wpAny (model prog w) A (pyNext (.ref it)) Q E s := by
  obtain ⟨o, ho, hc, hd⟩ := id hit
  obtain ⟨ol, hol, nl, hdl⟩ := hl
  unfold pyNext
  refine wpAny_bind (wpAny_attempt (wpAny_callSpecial?_slot (name := Str.ofString "__next__") hit.typeIs slot_listiter_next
    (wpAny_call_entry slot_listiter_next hit.typeIs entry_listiter_next ?_ (args_listiter_next _))))
  show wpAny _ _ (field (.ref it) 0 >>= _) _ _ s
  refine wpAny_bind (wpAny_field ho hd (x := .ref l) rfl ?_)
  show wpAny _ _ (if (Value.ref l == Value.none) = true then _ else _) _ _ s
  rw [if_neg (show ¬ ((Value.ref l == Value.none) = true) from Bool.false_ne_true)]
  show wpAny _ _ (field (.ref it) 1 >>= _) _ _ s
  refine wpAny_bind (wpAny_field ho hd (x := .int i 0) rfl ?_)
  show wpAny _ _ (seqItems? (.ref l) >>= _) _ _ s
  refine wpAny_bind (wpAny_seqItems hol hdl ?_)
  simp only [Int.toNat_natCast, hx]
  refine wpAny_bind (wpAny_rule (wpAny_bind (wpAny_setField ho hd (by simp) ?_)))
  show wpAny _ _ (newExc (.type "StopIteration") [] >>= _) _ _ _
  refine wpAny_bind ?_
  simp only [newExc, newTuple]
  refine wpAny_bind (wpAny_newObj_type ?_ (by size_fits))
  refine wpAny_bind (m := firstArgMember _ _) (wpAny_of_eq (a := Value.none) (by first | rfl | (simp only [firstArgMember]; rfl)) ?_)
  refine wpAny_newObj_type ?_ (by size_fits)
  simp only [raiseNew]
  refine wpAny_bind (wpAny_handled ?_)
  rw [show A.in1.handled = none from hh]
  refine wpAny_bind (wpAny_pure (wpAny_throw ?_))
  refine wpAny_bind (wpAny_isInstance (T := "StopIteration") (b := true) ⟨_, Heap.get?_push_size _ rfl, rfl⟩ isSubtype_stop ?_)
  exact wpAny_pure (hQ _ (((Heap.SameBut.update ..).extBut.push _).push _))
theorem walksU_seq (hh : A.handled = none) (I ax : Addr) (hne : ax ≠ I) (items : Array Value) (Ts : Nat → Addr) (vals : Nat → Array Value)
    (hit : ∀ j, j < items.size → items[j]? = some (.ref (Ts j))) (hTI : ∀ j, j < items.size → Ts j ≠ I) :
    WalksU prog w A I (I :: ax :: (List.range items.size).map Ts) [I] items.size (fun j v => j < items.size ∧ v = vals j)
      (fun j h => h.IsListIter I ax j ∧ SeqAt h ax items ∧ ∀ k, k < items.size → h.IsTuple (Ts k) (vals k))
      (fun j T h => (j < items.size ∧ T = Ts j) ∧ h.IsListIter I ax (j + 1) ∧ SeqAt h ax items ∧ ∀ k, k < items.size → h.IsTuple (Ts k) (vals k)) where
  sub := fun b hb => by simp at hb; simp [hb]
  frame := fun _ _ _ st hk => ⟨st.1.at fun o e => hk I (by simp) o e, st.2.1.at fun o e => hk ax (by simp) o e,
    fun k hk' => (st.2.2 k hk').at fun o e => hk (Ts k) (List.mem_cons_of_mem _ (List.mem_cons_of_mem _ (List.mem_map.mpr ⟨k, List.mem_range.mpr hk', rfl⟩))) o e⟩
  item := fun i s Q E hi st hQ => by
    refine next_item st.1 st.2.1 (x := .ref (Ts i)) (hit i hi) fun h' hit' hs' => ?_
    have tup : ∀ k, k < items.size → h'.IsTuple (Ts k) (vals k) := fun k hk' => (st.2.2 k hk').extBut hs'.extBut (hTI k hk')
    exact hQ (Ts i) (vals i) h' s.toks ⟨hi, rfl⟩ (tup i hi) ⟨⟨hi, rfl⟩, hit', st.2.1.at fun o e => (hs'.2 _ hne).trans e, tup⟩ fun b o hb e => hs'.extBut b o (fun h => hb (by simp [h])) e
  go := fun _ _ _ _ _ s Q _ hm hQ => wpAny_letOwnedTupleGo_listiter hm.2.1 (hQ s.heap hm.2 fun _ _ _ e => e)
  apart := fun j T _ hm hmem => by
    rcases List.mem_cons.mp hmem with e | e
    · exact hTI j hm.1.1 (hm.1.2 ▸ e)
    · cases e
  done := fun s Q E st hQ => next_end hh st.1 st.2.1 (by simp) fun h' he' => hQ h' s.toks fun b o hb e => he' b o (fun h => hb (by simp [h])) e
  self := fun _ _ _ _ st hQ => wpAny_pyIter_listiter st.1 hQ
end
end Mine
end

section
open PySem PySem.Calls PyProof.Rows PySem.W
set_option maxRecDepth 100000
namespace Mine
section
variable {prog : Program} {w : World} {c : Cfg} {K : Frag} {A : Around} {s s' s'' : Shared} {X : Addr → Prop} {aA : Option Addr} {α : Air}
noncomputable def Which (c : Cfg) (c₀ P : Addr) : Prop := (c₀ = c.c₁ ∧ P = c.P₁) ∨ (c₀ = c.c₂ ∧ P = c.P₂)
section
variable {c₀ P : Addr} (hw : Which c c₀ P)
include hw
theorem Which.ne {a : Addr} (h : a ≠ c.P₁ ∧ a ≠ c.P₂) : a ≠ P := by
  rcases hw with ⟨_, e⟩ | ⟨_, e⟩
  · exact e ▸ h.1
  · exact e ▸ h.2
theorem Which.ng (ok : CfgOK c) : mainGlobals ≠ P ∧ builtinsNs ≠ P ∧ cStatics ≠ P :=
  ⟨hw.ne ⟨ok.ng.1, ok.ng.2.1⟩, hw.ne ⟨ok.ng.2.2.1, ok.ng.2.2.2.1⟩, hw.ne ⟨ok.ng.2.2.2.2.1, ok.ng.2.2.2.2.2⟩⟩
theorem Which.mut {aA : Option Addr} : MutP c aA P := by
  rcases hw with ⟨_, e⟩ | ⟨_, e⟩
  · exact .inl e
  · exact .inr (.inl e)
theorem Which.tab (i : Inv c s) : Tab c₀ P s.heap := by
  rcases hw with ⟨e, f⟩ | ⟨e, f⟩
  · exact e ▸ f ▸ i.t₁
  · exact e ▸ f ▸ i.t₂
theorem Which.old (ok : CfgOK c) : ∃ ps₀, c.h₁.TableAt c₀ P ps₀ := by
  rcases hw with ⟨e, f⟩ | ⟨e, f⟩
  · exact e ▸ f ▸ ok.ht₁
  · exact e ▸ f ▸ ok.ht₂
end
section
variable {c₀ P : Addr} {h h' : Heap} {ps : Array Value}
theorem code_move (x : h.IsCode c₀ P ps) (k : ∀ b, b = c₀ ∨ b = P → ∀ o, h.get? b = some o → h'.get? b = some o) : h'.IsCode c₀ P ps := by
  obtain ⟨o, vs, file, tf, flags, tg, inF, text, tt, op, r1, r2, r3, r4, r5, r6, r7, r8, r9, r10, r11⟩ := x
  exact ⟨o, vs, file, tf, flags, tg, inF, text, tt, op, k _ (.inl rfl) _ r1, r2, r3, r4, r5, r6, r7, k _ (.inr rfl) _ r8, r9, r10, r11⟩
theorem table_move (x : h.TableAt c₀ P ps) (k : ∀ b, b = c₀ ∨ b = P → ∀ o, h.get? b = some o → h'.get? b = some o) : h'.TableAt c₀ P ps := by
  obtain ⟨⟨oc, vc, q1, q2⟩, q3⟩ := x
  exact ⟨⟨oc, vc, k _ (.inl rfl) _ q1, q2⟩, k _ (.inr rfl) _ q3⟩
theorem tab_move (x : Tab c₀ P h) (k : ∀ b, b = c₀ ∨ b = P → ∀ o, h.get? b = some o → h'.get? b = some o) : Tab c₀ P h' := by
  obtain ⟨ps, a, b⟩ := x
  exact ⟨ps, code_move a k, table_move b k⟩
end
inductive PastTab (c₀ P : Addr) (h h' : Heap) : Prop
  | mk (ps more : Array Value) (t0 : h.TableAt c₀ P ps) (t1 : h'.IsCode c₀ P (ps ++ more)) (t2 : h'.TableAt c₀ P (ps ++ more)) : PastTab c₀ P h h'
structure Past (c₀ P : Addr) (s s' : Shared) : Prop where
  keep : ∀ b o, b ≠ P → s.heap.get? b = some o → s'.heap.get? b = some o
  tab : PastTab c₀ P s.heap s'.heap
  gens : AllBare s'.gens
  os : s'.os = s.os
theorem Past.moved {c₀ P : Addr} {wr : List Addr} {G : Array GenState → Array GenState → Prop} (p : Past c₀ P s s') (hw : ∀ b ∈ wr, s.heap.get? b = none) (m : Moved wr G s' s'') (hG : ∀ a b, G a b → AllBare a → AllBare b) : Past c₀ P s s'' := by
  obtain ⟨ps, more, t0, t1, t2⟩ := p.tab
  have hP : P ∉ wr := fun q => by have := t0.2; rw [hw P q] at this; cases this
  have hc : c₀ ∉ wr := fun q => by obtain ⟨⟨o, vs, e, _⟩, _⟩ := t0; rw [hw c₀ q] at e; cases e
  have k : ∀ b, b = c₀ ∨ b = P → ∀ o, s'.heap.get? b = some o → s''.heap.get? b = some o := fun b q o e => m.heap b o (by rcases q with q | q <;> rw [q] <;> assumption) e
  exact ⟨fun b o ne e => m.heap b o (fun q => by rw [hw b q] at e; cases e) (p.keep b o ne e), ⟨ps, more, t0, code_move t1 k, table_move t2 k⟩, hG _ _ m.gens p.gens, m.os.trans p.os⟩
theorem Past.inv {c₀ P : Addr} (ok : CfgOK c) (hw : Which c c₀ P) (p : Past c₀ P s s') (i : Inv c s) : Inv c s' := by
  obtain ⟨ps, more, t0, t1, t2⟩ := p.tab
  have hng := hw.ng ok
  obtain ⟨iglo, iold, ios, igens, it₁, it₂⟩ := i
  refine ⟨⟨iglo.g.at' fun ob => p.keep _ ob hng.1, iglo.b.at' fun ob => p.keep _ ob hng.2.1, ?_, fun b o e n₁ n₂ => p.keep b o (hw.ne ⟨n₁, n₂⟩) (iglo.keep b o e n₁ n₂)⟩, ?_, p.os.trans ios, p.gens, ?_, ?_⟩
  · obtain ⟨m, hn, hm⟩ := iglo.lim
    exact ⟨m, hn.at' fun ob => p.keep _ ob hng.2.2, hm⟩
  · obtain ⟨ps₀, ht₀⟩ := hw.old ok
    exact iold.step_table ht₀ t0 t2 (fun b o ne e => p.keep b o ne e) (Ne.symm hng.2.2)
  · rcases hw with ⟨e, f⟩ | ⟨e, f⟩
    · exact e ▸ f ▸ ⟨_, t1, t2⟩
    · exact tab_move it₁ fun b q o => p.keep b o (q.elim (fun q => by rw [f, q]; exact ok.ne.2.1) fun q => by rw [f, q]; exact ok.ne.2.2.2.2)
  · rcases hw with ⟨e, f⟩ | ⟨e, f⟩
    · exact tab_move it₂ fun b q o => p.keep b o (q.elim (fun q => by rw [f, q]; exact ok.ne.2.2.1) fun q => by rw [f, q]; exact Ne.symm ok.ne.2.2.2.2)
    · exact e ▸ f ▸ ⟨_, t1, t2⟩
theorem Past.gi {c₀ P : Addr} (ok : CfgOK c) (hw : Which c c₀ P) (p : Past c₀ P s s') (g : GI c s X aA α) (hna : aA ≠ some P) : GI c s' X aA α ∧ GStep c aA X s.heap aA X s'.heap := by
  have hPX := g.mx P hw.mut
  have alive : ∀ b o, s.heap.get? b = some o → ∃ o', s'.heap.get? b = some o' := fun b o e => by
    by_cases q : b = P
    · obtain ⟨ps, more, t0, t1, t2⟩ := p.tab
      exact q ▸ ⟨_, t2.2⟩
    · exact ⟨o, p.keep b o q e⟩
  have kx : ∀ b o, s.heap.get? b = some o → ¬ X b → s'.heap.get? b = some o := fun b o e nx => p.keep b o (fun q => nx (q ▸ hPX)) e
  exact ⟨⟨p.inv ok hw g.inv, fun b hb => let ⟨o, e⟩ := g.xb b hb; alive b o e, g.air.mono kx (fun a e o => p.keep a o fun q => hna (q ▸ e)) (fun _ _ _ n => n) fun _ _ e => e, g.mx⟩, ⟨fun b o e nm => p.keep b o (fun q => nm (q ▸ hw.mut)) e, alive, fun _ e => e, fun _ _ _ e => e, .inl rfl⟩⟩
end
end Mine
end

section
open PySem PySem.Calls PyProof.Rows PySem.W
set_option maxRecDepth 100000
namespace Mine
section
variable {prog : Program} {w : World} {c : Cfg} {K : Frag} {A : Around} {s s' s'' : Shared} {X : Addr → Prop} {aA : Option Addr} {α : Air} {sc : List (Str × NameKind)} {N : List Str} {n : Nat}
noncomputable def genD (fe : List DV → Option DV) : List DV → Option (List DV)
  | [] => some []
  | .tup [a, b] :: r => if flat a && flat b then (fe [a, b]).bind fun e => if flat e then (genD fe r).map (e :: ·) else none else none
  | _ => none
theorem genD_at {fe : List DV → Option DV} : ∀ {its es : List DV}, genD fe its = some es → es.length = its.length ∧ ∀ (j : Nat) d, its[j]? = some d → ∃ a b e, d = .tup [a, b] ∧ flat a = true ∧ flat b = true ∧ fe [a, b] = some e ∧ flat e = true ∧ es[j]? = some e
  | [], es, h => by
    cases h
    exact ⟨rfl, fun j d e => by simp at e⟩
  | d :: r, es, h => by
    unfold genD at h
    split at h
    · rename_i q; cases q
    · rename_i a b r' q
      cases q
      split at h
      · rename_i hf
        rw [Bool.and_eq_true] at hf
        obtain ⟨e, he, h⟩ := obind h
        split at h
        · rename_i hfe
          obtain ⟨es', hes, rfl⟩ := omap h
          obtain ⟨h1, h2⟩ := genD_at hes
          refine ⟨by simp [h1], fun j d hd => ?_⟩
          cases j with
          | zero =>
            simp at hd
            subst hd
            exact ⟨a, b, e, rfl, hf.1, hf.2, he, hfe, rfl⟩
          | succ j => exact h2 j d (by simpa using hd)
        · cases h
      · cases h
    · cases h
theorem clOf_nil (cells : List (Str × Addr)) : ∀ (names : List (Str × NameKind)) (acc : List (Str × Addr)), (∀ y ∈ names, y.2 ≠ .free) → clOf cells names acc = acc
  | [], _, _ => rfl
  | (x, k) :: r, acc, h => by
    unfold clOf
    rw [if_neg (by have := h (x, k) (.head _); simpa using this)]
    exact clOf_nil cells r acc fun y hy => h y (.tail _ hy)
theorem WalksS.imp {A : Around} {I : Addr} {fp wr : List Addr} {G : Array GenState → Array GenState → Prop} {n : Nat} {P P' : Nat → Value → Prop} {St : Nat → Shared → Prop} (W : WalksS prog w A I fp wr G n P St) (h : ∀ i v, P i v → P' i v) : WalksS prog w A I fp wr G n P' St :=
  ⟨W.sub, W.grefl, W.gtrans, W.frame, fun i s Q E hi st hQ => W.item i s Q E hi st fun v s' hp => hQ v s' (h i v hp), W.done, W.self⟩
theorem passing_all (n : Nat) : passing (fun _ => true) n 0 = List.range n := by unfold passing; simp
theorem gen_air {a c₀ P : Addr} {env : Env} {ρ : List DV} {m cm : Str → Option Value} {f₀ fe : List DV → Option DV} {its es : List DV} {elt iter : Expr} {xa xb : Str} {pa pb pt pos : Pos} {kt : Nat} {scope : Scope} (ok : CfgOK c) (k : AirK c K) (hw : Which c c₀ P) (he : EnvOk env sc) (hcode : env.code = .ref c₀) (hA : RmN A (n + 2)) (g : GI c s X (some a) (some its))
    (hn : Nm env N s.heap X (some a) ρ m cm) (h₀ : SE prog w c sc N iter f₀) (hf₀ : f₀ ρ = some .air) (helt : SE prog w c scope.names [xa, xb] elt fe) (hes : genD fe its = some es)
    (hco : scope.isCoroutine = false) (hcell : (scope.names.all fun y => y.2 != .cell && y.2 != .free) = true) (h0 : scope.names.lookup (".0" : Str) = some NameKind.local)
    (hxa : scope.names.lookup xa = some .local) (hxb : scope.names.lookup xb = some .local) (hab : xa ≠ xb) (hkind : scope.kind = .function) (hs : ∀ x, genFold iter env x = pure x)
    {Q : Value → Shared → Prop} {E : Value → Shared → Prop}
    (h : ∀ (a' : Addr) (s' : Shared) (fp wr : List Addr) (G : Array GenState → Array GenState → Prop) (St : Nat → Shared → Prop), WalksS prog w A.in4 a' fp wr G es.length (fun j y => ∃ e, es[j]? = some e ∧ flatRel y e) St → (∀ i s, St i s → s.TypeIs (.ref a') "generator") → St 0 s' → (∀ b ∈ fp, b < s'.heap.objs.size) → a' ∈ fp →
      (∀ b ∈ wr, s.heap.get? b = none) → (∀ x y, G x y → AllBare x → AllBare y) → Past c₀ P s s' → Q (.ref a') s') :
    wpAny (model prog w) A (eval (.GeneratorExp elt [⟨.Tuple [.Name xa pa, .Name xb pb] kt pt, iter, [], 0⟩] scope pos) env) Q E s := by
  have nocell : ∀ y ∈ scope.names, y.2 ≠ .cell ∧ y.2 ≠ .free := fun y hy => by
    have := List.all_eq_true.mp hcell y hy
    simpa using this
  have hcl : closureFor scope env = pure (clOf env.cells scope.names []) := closure_is fun x hx => absurd rfl (nocell _ hx).2
  have hroom : A.depth < recursionLimit := by have := hA.depth; lia
  refine wpAny_GeneratorExp_walksQTD hA.handled hco hcl (fun y hy => (nocell y hy).1) h0 hxa hxb hab hkind hroom ?_ hs
  refine h₀ A env s X (some a) ρ m cm _ he hA.rm g.inv.glo g.xb hn hf₀ _ _ fun v₀ h₁ tk₁ r₀ k₁ => ?_
  cases r₀ using Rel.airC with
  | @air a₁ ha =>
    cases ha
    have g₁ := g.pure (tk := tk₁) k₁
    obtain ⟨dx, vs, z, hsh, tk, t, ep, its₀, e₀, hX, h1, ho, ndx, nda, hdx, hz, rl⟩ := g₁.look
    cases e₀
    refine inst_iter (k.at g₁.inv.glo) (inst_of (c := c) ho hdx) k.sub k.it ?_
    have kI : ∀ b o, h₁.get? b = some o → (h₁.push { cls := .type "list_iterator", data := .fields #[.ref a, .int 0 0] }).get? b = some o := fun b o e => Heap.get?_push_of_some _ e
    have g₂ := g₁.pure (tk := tk₁) kI
    refine ⟨g₂.inv.glo.lim, ?_⟩
    have tb : Tab c₀ P (h₁.push { cls := .type "list_iterator", data := .fields #[.ref a, .int 0 0] }) := hw.tab g₂.inv
    have tb0 : Tab c₀ P s.heap := hw.tab g.inv
    have hPa : P ≠ a := (hw.ne (GI.nP ok h1)).symm
    obtain ⟨ps, c1, c2⟩ := tb
    obtain ⟨ps₀, c10, c20⟩ := tb0
    have eps : ps₀ = ps := by
      have e1 := kI _ _ (k₁ _ _ c20.2)
      rw [c2.2] at e1
      cases e1; rfl
    subst eps
    have step : ∀ (cv : Value) (h₃ : Heap) (tk₃ : Tok) (more : Array Value), (∀ b o, b ≠ P → (h₁.push { cls := .type "list_iterator", data := .fields #[.ref a, .int 0 0] }).get? b = some o → h₃.get? b = some o) → h₃.IsCode c₀ P (ps₀ ++ more) → h₃.TableAt c₀ P (ps₀ ++ more) → h₁.objs.size < h₃.objs.size →
        wpAny (model prog w) A (builtinsFor env.globals env.builtins) (fun bi s₄ =>
          ∃ I fp wr n₀ Pt St₀ Mid pz F, (Value.ref h₁.objs.size) = .ref I ∧ (∀ A' : Around, A'.handled = none → WalksU prog w A' I fp wr n₀ Pt St₀ Mid) ∧ (∀ i vals, Pt i vals → ∃ va vb, vals = #[va, vb]) ∧ St₀ 0 s₄.heap ∧ (∀ b ∈ fp, b < s₄.heap.objs.size) ∧ s₄.heap.NoLimit ∧ cStatics ∉ wr ∧
          (∀ href : Heap, (∀ b o, s₄.heap.get? b = some o → href.get? b = some o) →
            QuietGenTD prog w (genEnv scope (clOf env.cells scope.names []) s₄.heap.objs.size cv bi env) xa xb [] elt (List.range s₄.heap.objs.size) wr Pt pz F href (A.depth + 1) (A.units + 8)) ∧
          (∀ a h₅ tk gs, gs.bare = true → s₄.heap.objs.size < a → h₅.objs.size = a + 1 → (∀ b o, s₄.heap.get? b = some o → h₅.get? b = some o) →
            WalksS prog w A.in4 a (a :: s₄.heap.objs.size :: List.range s₄.heap.objs.size) (s₄.heap.objs.size :: wr) (GenOnlyQ s₄.gens.size) (passing pz n₀ 0).length
              (fun j y => ∃ i, (passing pz n₀ 0)[j]? = some i ∧ F i y) (GenAt prog w A.in4 a s₄.gens.size s₄.heap.objs.size (List.range s₄.heap.objs.size) wr pz n₀ F) →
            GenAt prog w A.in4 a s₄.gens.size s₄.heap.objs.size (List.range s₄.heap.objs.size) wr pz n₀ F 0 { s₄ with gens := s₄.gens.push gs, toks := tk, heap := h₅ } →
            Q (.ref a) { s₄ with gens := s₄.gens.push gs, toks := tk, heap := h₅ })) E { s with heap := h₃, toks := tk₃ } := by
      intro cv h₃ tk₃ more hx d1 d2 hsz3
      have hI : h₁.get? h₁.objs.size = none := by
        cases q : h₁.get? h₁.objs.size with
        | none => rfl
        | some ob => exact absurd (Heap.lt_size q) (Nat.lt_irrefl _)
      have kq : ∀ b o, b ≠ P → h₁.get? b = some o → h₃.get? b = some o := fun b o ne e => hx b o ne (kI b o e)
      have hPX : X P := g.mx P hw.mut
      have hng : mainGlobals ≠ P ∧ builtinsNs ≠ P ∧ cStatics ≠ P := hw.ng ok
      obtain ⟨hlen, hat⟩ := genD_at hes
      have hl := rl.length
      have hall : ∀ j : Nat, ∃ p : Addr × Value × Value, ∀ d, its[j]? = some d → vs[j]? = some (.ref p.1) ∧ IsTup h₁ p.1 #[p.2.1, p.2.2] ∧ ¬ X p.1 ∧ ∃ da db e, d = .tup [da, db] ∧ Rel h₁ X (some a) p.2.1 da ∧ Rel h₁ X (some a) p.2.2 db ∧ flat da = true ∧ flat db = true ∧ fe [da, db] = some e ∧ flat e = true ∧ es[j]? = some e := by
        intro j
        cases hj : its[j]? with
        | none => exact ⟨(0, .none, .none), fun d e => nomatch e⟩
        | some d =>
          obtain ⟨da, db, e, rfl, f1, f2, f3, f4, f5⟩ := hat j d hj
          obtain ⟨v, hv, rv⟩ := rl.get hj
          cases rv with
          | @tup T ws _ nx it hzz rws =>
            cases rws using RelL.consC with
            | cons ra rws =>
              cases rws using RelL.consC with
              | cons rb rws =>
                cases rws using RelL.nilC
                exact ⟨(T, _, _), fun d e => by cases e; exact ⟨hv, it, nx, da, db, _, rfl, ra, rb, f1, f2, f3, f4, f5⟩⟩
      obtain ⟨pf, hpf⟩ := Classical.axiomOfChoice hall
      have hin : ∀ j, j < vs.toArray.size → ∃ d, its[j]? = some d := fun j hj => ⟨_, List.getElem?_eq_getElem (by simpa [hl] using hj)⟩
      have hTal : ∀ j, j < vs.toArray.size → ∃ o, h₁.get? (pf j).1 = some o := fun j hj => by
        obtain ⟨d, hd⟩ := hin j hj
        obtain ⟨_, ⟨o, e, _⟩, _⟩ := hpf j d hd
        exact ⟨o, e⟩
      have hTP : ∀ j, j < vs.toArray.size → (pf j).1 ≠ P := fun j hj q => by
        obtain ⟨d, hd⟩ := hin j hj
        obtain ⟨_, _, nx, _⟩ := hpf j d hd
        exact nx (q ▸ hPX)
      have hTI : ∀ j, j < vs.toArray.size → (pf j).1 ≠ h₁.objs.size := fun j hj q => by
        obtain ⟨o, e⟩ := hTal j hj
        rw [q, hI] at e; cases e
      have haI : a ≠ h₁.objs.size := fun q => by rw [q, hI] at ho; cases ho
      have hPI : h₁.objs.size ≠ P := fun q => by
        have e := k₁ _ _ c20.2
        rw [← q, hI] at e; cases e
      obtain ⟨bm, obm, b1, b2, b3, b4, b5, b6, b7, b8⟩ := ok.bm
      have hbmP : bm ≠ P := hw.ne ⟨b7, b8⟩
      have hns₃ : h₃.Ns mainGlobals c.mg := g₁.inv.glo.g.at' fun o => kq _ o hng.1
      refine wpAny_builtinsFor (s := { s with heap := h₃, toks := tk₃ }) (he.globals ▸ hns₃) b1 b2 (kq _ _ hbmP (g₁.inv.glo.keep _ _ b3 b7 b8)) b4 b5 b6 ?_
      refine ⟨h₁.objs.size, _, _, vs.toArray.size, _, _, _, fun _ => true, fun i y => ∃ e, es[i]? = some e ∧ flatRel y e, rfl, fun A' hA' => walksU_seq hA' h₁.objs.size a haI vs.toArray (fun j => (pf j).1) (fun j => #[(pf j).2.1, (pf j).2.2]) (fun j hj => ?_) hTI, ?_, ⟨?_, ?_, ?_⟩, ?_, ?_, ?_, ?_, ?_⟩
      · obtain ⟨d, hd⟩ := hin j hj
        simpa using (hpf j d hd).1
      · rintro i vals ⟨_, rfl⟩
        exact ⟨_, _, rfl⟩
      · refine Heap.IsListIter.at (h := h₁.push _) ⟨_, Heap.get?_push_size _ rfl, rfl, rfl⟩ fun o e => hx _ o hPI e
      · exact ⟨_, kq _ _ hPa.symm ho, _, rfl⟩
      · intro j hj
        obtain ⟨d, hd⟩ := hin j hj
        obtain ⟨_, ⟨o, e, r⟩, _⟩ := hpf j d hd
        exact ⟨o, kq _ _ (hTP j hj) e, r⟩
      · intro b hb
        rcases List.mem_cons.mp hb with rfl | hb
        · exact hsz3
        · rcases List.mem_cons.mp hb with rfl | hb
          · exact Heap.lt_size (kq _ _ hPa.symm ho)
          · obtain ⟨j, hj, rfl⟩ := List.mem_map.mp hb
            obtain ⟨o, e⟩ := hTal j (List.mem_range.mp hj)
            exact Heap.lt_size (kq _ _ (hTP j (List.mem_range.mp hj)) e)
      · obtain ⟨mc, q1, q2⟩ := g₁.inv.glo.lim
        exact ⟨mc, q1.at' fun o => kq _ o hng.2.2, q2⟩
      · intro hm
        obtain ⟨mc, ⟨o, _, _, e, _⟩, q2⟩ := g₁.inv.glo.lim
        rw [List.mem_singleton.mp hm, hI] at e; cases e
      · intro href hhref
        refine ⟨fun A' E' i va vb s₂ m₂ _ _ _ _ _ _ _ _ => wpAny_tests_nil ⟨rfl, _, _, rfl, fun _ _ e => e⟩, ?_⟩
        intro A' E' i va vb s₂ m₂ hh' hdep hun hPt _ hns hma hmb hkeep
        obtain ⟨hi, hv⟩ := hPt
        obtain ⟨d, hd⟩ := hin i hi
        obtain ⟨_, _, _, da, db, e, rfl, ra, rb, f1, f2, f3, f4, f5⟩ := hpf i d hd
        have e1 : va = (pf i).2.1 ∧ vb = (pf i).2.2 := by simpa using hv
        have kk : ∀ b o, b ≠ P → h₁.get? b = some o → s₂.heap.get? b = some o := fun b o ne e => by
          have e3 := kq b o ne e
          refine hkeep b (List.mem_range.mpr (Heap.lt_size e3)) (fun q => ?_) o (hhref b o e3)
          rw [List.mem_singleton.mp q, hI] at e; cases e
        have he' : EnvOk (genEnv scope (clOf env.cells scope.names []) h₃.objs.size cv builtinsNs env) scope.names := ⟨hkind, he.globals, rfl, rfl, fun x hx' => by
          rcases hx' with q | q
          · exact absurd rfl (nocell _ (mem_of_lookup q)).1
          · exact absurd rfl (nocell _ (mem_of_lookup q)).2⟩
        have hg' : Glo c s₂.heap := ⟨g₁.inv.glo.g.at' fun o => kk _ o hng.1, g₁.inv.glo.b.at' fun o => kk _ o hng.2.1, by
          obtain ⟨mc, q1, q2⟩ := g₁.inv.glo.lim
          exact ⟨mc, q1.at' fun o => kk _ o hng.2.2, q2⟩, fun b o e n1 n2 => kk b o (hw.ne ⟨n1, n2⟩) (g₁.inv.glo.keep b o e n1 n2)⟩
        refine helt A' _ s₂ (fun _ => False) none [da, db] m₂ (fun _ => none) e he' ⟨hh', by have := hA.units; lia⟩ hg' (fun _ q => q.elim) ⟨hns, fun x b q => ?_, fun j dj hj hne => ?_⟩ f3 _ _ fun y h' tk' r kk' => ⟨⟨e, f5, flatRel_of r f4⟩, h', tk', rfl, kk'⟩
        · have q' : (clOf env.cells scope.names []).lookup x = some b := q
          rw [clOf_nil _ _ _ fun y hy => (nocell y hy).2] at q'
          cases q'
        · have kx : ∀ x, Env.kindOf (genEnv scope (clOf env.cells scope.names []) h₃.objs.size cv builtinsNs env) x = scope.names.lookup x := he'.kindOf
          match j, hj with
          | 0, hj =>
            cases hj
            exact ⟨xa, va, rfl, by unfold valOf; rw [kx, hxa]; exact hma, e1.1 ▸ flat_rel ra f1⟩
          | 1, hj =>
            cases hj
            exact ⟨xb, vb, rfl, by unfold valOf; rw [kx, hxb]; exact hmb, e1.2 ▸ flat_rel rb f2⟩
          | j + 2, hj => simp at hj
      · intro a' h₅ tk₅ gs hbare hlt hsz5 hk5 W hG
        have hlt' : h₃.objs.size < a' := hlt
        have none_of : ∀ b, h₁.objs.size ≤ b → s.heap.get? b = none := fun b hb => by
          cases q : s.heap.get? b with
          | none => rfl
          | some o => exact absurd (Heap.lt_size (k₁ b o q)) (Nat.not_lt.mpr hb)
        have hpl : (passing (fun _ => true) vs.toArray.size 0).length = es.length := by rw [passing_all, List.length_range, hlen, ← hl]; simp
        rw [hpl] at W
        refine h a' { s with gens := s.gens.push gs, toks := tk₅, heap := h₅ } _ _ _ _ (WalksS.imp W fun j y hy => ?_) (fun i s st => st.1.typeIs) hG (fun b hb => ?_) (.head _) (fun b hb => ?_) (fun x y q => q.bare) ⟨fun b o ne e => hk5 b o (kq b o ne (k₁ b o e)), ⟨ps₀, more, c20, d1.keeps hk5, d2.keeps hk5⟩, g.inv.gens.push hbare, rfl⟩
        · obtain ⟨i, q1, q2⟩ := hy
          rw [passing_all] at q1
          have : i = j := by
            obtain ⟨_, e⟩ := List.getElem?_eq_some_iff.mp q1
            rw [List.getElem_range] at e
            exact e.symm
          exact this ▸ q2
        · have hsz5' : h₅.objs.size = a' + 1 := hsz5
          show b < h₅.objs.size
          have hb' : b = a' ∨ b = h₃.objs.size ∨ b < h₃.objs.size := by
            rcases List.mem_cons.mp hb with q | hb
            · exact .inl q
            · rcases List.mem_cons.mp hb with q | hb
              · exact .inr (.inl q)
              · exact .inr (.inr (List.mem_range.mp hb))
          rw [hsz5']
          rcases hb' with q | q | q
          · rw [q]; exact Nat.lt_succ_self _
          · rw [q]; exact Nat.lt_succ_of_lt hlt'
          · exact Nat.lt_succ_of_lt (Nat.lt_trans q hlt')
        · rcases List.mem_cons.mp hb with rfl | hb
          · exact none_of _ (Nat.le_of_lt hsz3)
          · rw [List.mem_singleton.mp hb]; exact none_of _ (Nat.le_refl _)
    cases hnf : codeAmong pos ps₀.toList with
    | some c' =>
      refine wpAny_genexprCode_hit hcode c1 hnf (step c' _ tk₁ #[] (fun b o _ e => e) (by simpa using c1) (by simpa using c2) (by rw [Heap.size_push]; exact Nat.lt_succ_self _))
    | none =>
      refine wpAny_genexprCodeX hcode c1 c2 hnf fun c' h₃ tk₃ hx hle hlt d1 _ d2 _ => step (.ref c') h₃ tk₃ _ (fun b o ne e => hx b o ne e) d1 d2 ?_
      have hle' : (h₁.push { cls := .type "list_iterator", data := .fields #[.ref a, .int 0 0] }).objs.size ≤ c' := hle
      rw [Heap.size_push] at hle'
      lia
end
end Mine
end

section
open PySem PySem.Calls PyProof.Rows PySem.W
set_option maxRecDepth 100000
namespace Mine
section
variable {prog : Program} {w : World} {c : Cfg} {K : Frag} {A : Around} {s s' s'' : Shared} {X : Addr → Prop} {aA : Option Addr} {α : Air} {sc : List (Str × NameKind)} {N : List Str} {n : Nat}
theorem first_size {hsh : Int} {tk t : Tok} {ep : Nat} (k : AirK c K) : findObj K c.C (some (airDict hsh tk t ep)) "_initial_size" = some (.value (.int 2 t)) := by
  obtain ⟨cd, h1, h2⟩ := k.own
  unfold findObj
  rw [h1, k.nof]
  simp only [Option.bind_some]
  unfold PySem.W.ownOf
  rw [h2, if_pos rfl]
  have : lookIn "_initial_size" (airDict hsh tk t ep) = some (some (.int 2 t)) := by
    unfold lookIn airDict
    have h' : (Value.str ("_initial_size" : Str) tk).isStr "_initial_size" = true := by
      show (Value.str ("_initial_size" : Str) 0).isStr "_initial_size" = true
      decide +kernel
    simp [h', DictEntry.refKey]
  simp only [this, Option.bind_some]
theorem slot_list_ga : Slot "list" "__getattribute__" "list.__getattribute__" := .of (owner := "list") (n := "__getattribute__") (by rw [typeLookup_type, builtinLookup_eq_fast]; kernel_rfl) (by decide +kernel) (by decide +kernel) (by decide +kernel) (.inl (by decide +kernel)) (by rw [isSubtype_type]; kernel_rfl)
theorem k_ga1 : builtinKind "list.__getattribute__" = some .slot := by decide +kernel
theorem k_ga2 : splitId "list.__getattribute__" = some ("list", "__getattribute__") := by decide +kernel
theorem args_list_ga (a b : Value) : argsOk "list.__getattribute__" ⟨[a, b], []⟩ := by unfold argsOk; kernel_rfl
theorem get_first {A : Around} {E : Value → Shared → Prop} {s : Shared} {a C : Addr} {ox od : Obj} {name : Str} {v : Value} {Q : Value → Shared → Prop} (X : K.In s.heap) (I : InstAt s.heap a ox C (some od)) (hm : mroIn K C (.type "list") = some true) (hga : findIn K (.ref C) "__getattribute__" = some (some (.builtin "list.__getattribute__"))) (hk : findIn K (.ref C) "__getattr__" = some none)
    (hf : findObj K C (some od) name = some (.value v)) (hh : handedIn v = true) (h : Q v { s with toks := s.toks + 1 }) : wpAny (model prog w) A (getAttr (.ref a) name true) Q E s := by
  obtain ⟨hp, g, d, t, os⟩ := s
  have L0 := I.type (M := model prog w)
  have L1 := looks_findIn (M := model prog w) X hga
  have L2 := looks_findIn (M := model prog w) X hk
  have LF := looks_find (M := model prog w) X I hf
  have run : wpAny (model prog w) A (call (.builtin "list.__getattribute__") [.ref a, .str name t]) (fun r s' => r = v ∧ s' = ⟨hp, g, d, t + 1, os⟩) (fun _ _ => False) ⟨hp, g, d, t + 1, os⟩ := by
    refine call_inst slot_list_ga.plain (by first | exact PySem.F.am_entry_list_getattribute | exact PySem.am_entry_list_getattribute) ?_
    refine inst_check (i := "list.__getattribute__") (n := "__getattribute__") (rest := [.str name t]) X I hm (.inr k_ga1) k_ga2 (args_list_ga _ _) ?_
    unfold Builtin.«object.__getattribute__»
    refine wpAny_bind (wpAny_pure (wpAny_bind (wpAny_pure (wpAny_bind (L0.at (wpAny_bind (LF.at ?_)))))))
    exact wpAny_pure ⟨v, rfl, rfl, rfl⟩
  unfold getAttr getAttrBy
  refine wpAny_bind (wpAny_mkText (wpAny_holding (wpAny_bind (L0.at (wpAny_bind (L1.at ?_))))))
  show wpAny _ _ (getAttrByItsOwn (.ref a) (.str name t) (.ref C) (.builtin "list.__getattribute__") true true) _ _ _
  unfold getAttrByItsOwn hookBefore callGetattribute boundAndCalled
  refine wpAny_bind (L2.at ?_)
  refine wpAny_bind (wpAny_attempt (wpAny_holding ?_))
  show wpAny _ _ (bindSpecial (.builtin "list.__getattribute__") (.ref a) >>= _) _ _ _
  refine wpAny_bind (wpAny_of_eq (slot_list_ga.bind _) (wpAny_mono run (fun r s' hr => ?_) fun _ _ z => z.elim))
  obtain ⟨rfl, rfl⟩ := hr
  show wpAny _ _ (handedOut r) _ _ _
  rw [handedOut_of hh]
  exact wpAny_pure h
noncomputable def shiftP (P : Nat → Value → Prop) : Nat → Value → Prop
  | 0, _ => False
  | j + 1, v => P j v
noncomputable def shiftS (St : Nat → Shared → Prop) : Nat → Shared → Prop
  | 0, _ => False
  | j + 1, s => St j s
theorem WalksS.shift {A : Around} {I : Addr} {fp wr : List Addr} {G : Array GenState → Array GenState → Prop} {n : Nat} {P : Nat → Value → Prop} {St : Nat → Shared → Prop} (W : WalksS prog w A I fp wr G n P St) : WalksS prog w A I fp wr G (n + 1) (shiftP P) (shiftS St) where
  sub := W.sub
  grefl := W.grefl
  gtrans := W.gtrans
  frame := fun i s h' tk st => match i, st with
    | 0, st => st.elim
    | i + 1, st => W.frame i s h' tk st
  item := fun i s Q E hi st hQ => match i, st, hQ with
    | 0, st, _ => st.elim
    | i + 1, st, hQ => W.item i s Q E (by lia) st hQ
  done := fun s Q E st hQ => W.done s Q E st hQ
  self := fun i s Q E st hQ => match i, st with
    | 0, st => st.elim
    | i + 1, st => W.self i s Q E st hQ
noncomputable def shiftV (z : Int) (val : Nat → Int) : Nat → Int
  | 0 => z
  | j + 1 => val j
theorem preSum_shift (z : Int) (val : Nat → Int) : ∀ j, preSum (shiftV z val) (j + 1) = z + preSum val j
  | 0 => by simp [preSum, shiftV]
  | j + 1 => by
    have := preSum_shift z val j
    show preSum (shiftV z val) (j + 1) + val j = z + (preSum val j + val j)
    rw [this]
    lia
theorem args_sum2 (a b : Value) : argsOk "sum" ⟨[a, b], []⟩ := by unfold argsOk; kernel_rfl
theorem call_sum2 {E : Value → Shared → Prop} {x : Value} {t : Tok} {Q : Value → Shared → Prop}
    (h : wpAny (model prog w) A.in1 (pyIter x) (fun it s₂ => ∃ I fp wr G n P St val, it = .ref I ∧ WalksS prog w A.in1 I fp wr G n P St ∧ St 0 s₂ ∧ (∀ b ∈ fp, b < s₂.heap.objs.size) ∧
      (∀ i v, P i v → ∃ t, v = .int (val i) t) ∧ (∀ j, j < n → InLong (val j) ∧ InLong (2 + preSum val (j + 1))) ∧
      ∀ s' t', Moved wr G s₂ s' → Q (.int (2 + preSum val n) t') s') E s) :
    wpAny (model prog w) A (call (.builtin "sum") [x, .int 2 t]) Q E s := by
  refine call_function_tree PySem.F.kind_sum PySem.F.plain_sum PySem.F.entry_sum (args_sum2 _ _) ?_
  unfold Builtin.«sum»
  simp only [List.length_cons, List.length_nil]
  rw [if_neg (by decide)]
  refine wpAny_bind (wpAny_of_eq (show Builtin.Builtins.bindParams "sum" ["start"] 0 ⟨[.int 2 t], []⟩ = pure [some (.int 2 t)] from rfl) ?_)
  refine wpAny_bind (wpAny_mono h (fun it s₂ h₂ => ?_) fun _ _ e => e)
  obtain ⟨I, fp, wr, G, n, P, St, val, rfl, W, hst, hfp, hval, hfit, hQ⟩ := h₂
  refine wpAny_bind (wpAny_rule (wpAny_bind (wpAny_mkInt (wpAny_bind (wpAny_pure ?_)))))
  simp only [List.forIn_cons, List.forIn_nil]
  refine wpAny_bind (wpAny_bind (wpAny_bind (wpAny_isInstance (T := "int") (b := false) (typeIs_int _ _ _) PySem.sub_int_str ?_)))
  simp only [Bool.false_eq_true, if_false]
  refine wpAny_pure (wpAny_bind (wpAny_bind (wpAny_isInstance (T := "int") (b := false) (typeIs_int _ _ _) PySem.sub_int_bytes ?_)))
  simp only [Bool.false_eq_true, if_false]
  refine wpAny_pure (wpAny_bind (wpAny_bind (wpAny_isInstance (T := "int") (b := false) (typeIs_int _ _ _) PySem.sub_int_bytearray ?_)))
  simp only [Bool.false_eq_true, if_false]
  refine wpAny_pure (wpAny_pure ?_)
  refine wpAny_bind (wpAny_newObj_type ?_)
  have hSf : s₂.heap.objs.size ∉ fp := fun hm => Nat.lt_irrefl _ (hfp _ hm)
  have e1 : preSum (shiftV 2 val) 1 = 2 := by rw [preSum_shift]; rfl
  refine wpAny_pure ⟨plainId_quiet PySem.F.plain_sum_loop _, codeAny_sum_loopS (Mine.WalksS.shift W) (shiftV 2 val) (fun i v hp => ?_) (fun j hj => ?_) s₂.heap.objs.size hSf n 1 _ s₂.toks 0 (Nat.add_sub_cancel n 1) (Nat.le_add_left 1 n)
    (W.frame 0 s₂ _ _ hst (by first | exact Nat.le_refl _ | exact Nat.le_succ _ | omega) fun b _ o e => Heap.get?_push_of_some _ e) (by rw [e1]; exact Heap.get?_push_size _ rfl) fun s' t' hm => ?_⟩
  · match i, hp with
    | i + 1, hp => exact hval i v hp
  · match j with
    | 0 => exact ⟨by show InLong 2; constructor <;> decide, by rw [e1]; constructor <;> decide⟩
    | j + 1 =>
      rw [preSum_shift]
      exact hfit j (by lia)
  · rw [preSum_shift]
    exact hQ s' t' (hm.drop_new (by first | exact Nat.le_refl _ | exact Nat.le_succ _ | omega))
end
end Mine
end

section
open PySem PySem.Calls PyProof.Rows PySem.W
set_option maxRecDepth 100000
namespace Mine
section
variable {prog : Program} {w : World} {c : Cfg} {K : Frag} {A : Around} {s s' s'' : Shared} {X : Addr → Prop} {aA : Option Addr} {α : Air} {sc : List (Str × NameKind)} {N : List Str} {n : Nat}
noncomputable def joinTD : List DV → Option DV
  | [.str x, .tup ds] => (asStrs ds).bind fun ys => if (ys.map (·.length)).sum + ys.length * x.length ≤ 1000000 ∧ (Txt.join x ys).length ≤ sizeB then some (.str (Txt.join x ys)) else none
  | _ => none
theorem bi_joinT : BI prog w (.builtin "str.join") joinTD := by
  intro A s X aA vs ds d hA hx hr hd Q E h
  unfold joinTD at hd
  split at hd
  · obtain ⟨ys, hys, hd⟩ := obind hd
    split at hd
    · rename_i hc
      cases hd
      obtain ⟨v, u, rfl, r, q⟩ := hr.two
      cases r using Rel.strC
      cases q using Rel.tupC with
      | tup n1 l1 z1 q1 =>
        obtain ⟨l, rfl, e, q2⟩ := q1.areStrs hys
        exact join_tuple l1 (by simpa using q2) (by have := hc.1; lia) fun t' k => h _ _ _ (.str _ _ hc.2) fun _ _ e => e
    · cases hd
  · cases hd
theorem se_con_str {x y : Str} {pos : Pos} {t : Tok} (hk : sc.lookup x = some .globalImplicit) (hv : c.mg x = some (.str y t)) (hl : y.length ≤ sizeB) (hd : (x == ("__debug__" : Str)) = false := by decide +kernel) : SE prog w c sc N (.Name x pos) (mStr y) := by
  intro A env s X aA ρ m cm d he hr hg hx hn hf Q E h
  unfold mStr at hf
  rw [if_pos hl] at hf
  cases hf
  exact load_global he hg hk hv hd (h _ _ _ (.str y t hl) fun _ _ e => e)
variable (prog w c N) in
noncomputable def SSc (n : Nat) (sc : List (Str × NameKind)) (code : Value) (body : List Stmt) (G : SF) : Prop :=
  ∀ (A : Around) (env : Env) (s : Shared) (σ : St) (o aA : Option Addr) (X : Addr → Prop) (fl : Fl) (σ' : St), EnvOk env sc → env.code = code → RmN A n → FI c env N s σ o aA X → G σ = some (fl, σ') →
    ∀ (Q : Flow → Shared → Prop) (E : Value → Shared → Prop), (∀ f s' o' aA' X', FlR s'.heap X' aA' f fl → SStep c env o aA X s.heap o' aA' X' s'.heap → FI c env N s' σ' o' aA' X' → Q f s') → wpAny (model prog w) A (execs body env) Q E s
theorem airAt {s : Shared} {its : List DV} {α : Air} (g : GI c s X aA α) (h : α = some its) : ∃ a, aA = some a := by
  have := g.air
  subst h
  unfold AirOK at this
  cases aA with
  | none => cases this
  | some a => exact ⟨a, rfl⟩
noncomputable def kLen (fe : List DV → Option DV) : SF := fun σ => (mVar 0 σ.ρ).bind fun d => match d with
  | .air => σ.air.bind fun its => (genD fe its).bind fun es => (asInts es).bind fun ns => if (ns.all fun i => decide (0 ≤ i ∧ i ≤ 2 ^ 20)) = true then some (.ret (.int (2 + ns.sum)), σ) else none
  | _ => none
theorem asInts_at : ∀ {es : List DV} {ns : List Int}, asInts es = some ns → ns.length = es.length ∧ ∀ (j : Nat) e, es[j]? = some e → e = .int (ns.getD j 0)
  | [], ns, h => by cases h; exact ⟨rfl, fun j e q => by simp at q⟩
  | d :: r, ns, h => by
    cases d <;> simp only [asInts, Option.map_eq_some_iff, reduceCtorEq] at h
    obtain ⟨ns', h, rfl⟩ := h
    obtain ⟨h1, h2⟩ := asInts_at h
    refine ⟨by simp [h1], fun j e q => ?_⟩
    cases j with
    | zero => simp at q; subst q; simp
    | succ j => simpa using h2 j e (by simpa using q)
theorem sum_bound : ∀ (l : List Int), (∀ x ∈ l, 0 ≤ x ∧ x ≤ 2 ^ 20) → 0 ≤ l.sum ∧ l.sum ≤ l.length * 2 ^ 20
  | [], _ => by simp
  | x :: l, h => by
    have h1 := h x (.head _)
    have h2 := sum_bound l fun y hy => h y (.tail _ hy)
    rw [List.sum_cons, List.length_cons]
    have : ((l.length + 1 : Nat) : Int) * 2 ^ 20 = l.length * 2 ^ 20 + 2 ^ 20 := by rw [Int.natCast_add, Int.add_mul]; simp
    lia
theorem inLong_of {x : Int} (h0 : 0 ≤ x) (h1 : x ≤ 2 + 4096 * 2 ^ 20) : InLong x := ⟨Int.le_trans (by decide) h0, Int.lt_of_le_of_lt h1 (by decide)⟩
theorem body_len {c₀ P : Addr} {fe : List DV → Option DV} {elt : Expr} {x sx : Str} {xa xb : Str} {np pa pb pt gp ap xp xp' cp rp : Pos} {kt : Nat} {scope : Scope} (ok : CfgOK c) (k : AirK c K) (hw : Which c c₀ P) (hx : N[0]? = some x) (helt : SE prog w c scope.names [xa, xb] elt fe)
    (hk : sc.lookup sx = some .globalImplicit) (hmg : c.mg sx = none) (hmb : c.mb sx = some (.builtin "sum")) (hd : (sx == ("__debug__" : Str)) = false)
    (hd1 : (x == ("__classdict__" : Str)) = false) (hd2 : (x == ("__debug__" : Str)) = false)
    (hco : scope.isCoroutine = false) (hcell : (scope.names.all fun y => y.2 != .cell && y.2 != .free) = true) (h0 : scope.names.lookup (".0" : Str) = some NameKind.local)
    (hxa : scope.names.lookup xa = some .local) (hxb : scope.names.lookup xb = some .local) (hab : xa ≠ xb) (hkind : scope.kind = .function) :
    SSc prog w c N (n + 2) sc (.ref c₀) [.Return (some (.Call (.Name sx np) [.GeneratorExp elt [⟨.Tuple [.Name xa pa, .Name xb pb] kt pt, .Name x xp, [], 0⟩] scope gp, .Attribute (.Name x xp') "_initial_size" ap] [] cp)) rp] (kLen fe) := by
  intro A env s σ o aA X fl σ' he hcode hA fi hG Q E h
  obtain ⟨d, hd0, hG⟩ := obind hG
  split at hG
  · obtain ⟨its, hits, hG⟩ := obind hG
    obtain ⟨es, hes, hG⟩ := obind hG
    obtain ⟨ns, hns, hG⟩ := obind hG
    split at hG
    · rename_i hbd
      cases hG
      have g := fi.gi
      obtain ⟨a, ha⟩ := airAt g hits
      subst ha
      rw [hits] at g
      obtain ⟨m, cm, hn, _⟩ := fi.nm
      have hbd' : ∀ i ∈ ns, 0 ≤ i ∧ i ≤ 2 ^ 20 := fun i hi => by simpa using List.all_eq_true.mp hbd i hi
      refine wpAny_execs_cons (wpAny_Return_some (wpAny_Call_NameR (load_builtin he fi.inv.glo hk hmg hmb hd (PyProof.Rows.callWith_builtin1 (wpAny_items_cons ?_ rfl) rfl rfl))))
      refine gen_air (n := n) (iter := .Name x xp) ok k hw he hcode hA g hn (se_var (N := N) hx hd1 hd2) hd0 helt hes hco hcell h0 hxa hxb hab hkind (fun _ => rfl) fun a' s' fp wr G St W hT hst hfp ha' hwr hGb past => ?_
      obtain ⟨_, _, _, _, _, _, _, _, _, _, h1, _⟩ := g.look
      have hna : some a ≠ some P := fun e => by
        cases e
        rcases hw with ⟨_, e⟩ | ⟨_, e⟩
        · exact (GI.nP ok h1).1 e
        · exact (GI.nP ok h1).2 e
      obtain ⟨g', gst⟩ := past.gi ok hw g hna
      have hn' := hn.gstep gst g.mx fi.offs
      obtain ⟨e0, ne0⟩ := mVar_some hd0
      obtain ⟨x', v, ex, ev, r⟩ := hn'.val 0 _ e0 ne0
      rw [hx] at ex
      cases ex
      cases r using Rel.airC with
      | @air a₁ ha =>
        cases ha
        obtain ⟨dx, vs, z, hsh, tk, t, ep, its₀, e₀, hX, _, ho, ndx, nda, hdx, hz, rl⟩ := g'.look
        cases e₀
        refine wpAny_items_cons (Attribute_name (wpAny_Name (load_val he.kind hn'.ns hn'.cell ev hd1 (get_first (k.at g'.inv.glo) (inst_of (c := c) ho hdx) k.sub k.ga k.gk (first_size k) rfl ?_)) hd2)) rfl
        refine wpAny_items_nil (call_sum2 ?_)
        have W1 := WalksS.in4_1 W
        have hst' : St 0 { s' with toks := s'.toks + 1 } := W1.frame 0 s' s'.heap (s'.toks + 1) hst (Nat.le_succ _) fun _ _ _ e => e
        refine W1.self 0 _ _ _ hst' ?_
        obtain ⟨hlen, hat⟩ := asInts_at hns
        have hl := (genD_at hes).1
        have hrl := rl.length
        refine ⟨a', fp, wr, G, es.length, _, St, fun j => ns.getD j 0, rfl, W1, hst', hfp, fun j y hy => ?_, fun j hj => ?_, fun s₃ t' hm => ?_⟩
        · obtain ⟨e, he', hr⟩ := hy
          rw [hat j e he'] at hr
          exact hr
        · have hb : ∀ j, 0 ≤ (ns.take j).sum ∧ (ns.take j).sum ≤ 4096 * 2 ^ 20 := fun j => by
            have := sum_bound (ns.take j) fun y hy => hbd' y (List.mem_of_mem_take hy)
            have hlt : (ns.take j).length ≤ 4096 := by rw [List.length_take]; lia
            lia
          have hj' : j < ns.length := by lia
          have hv := hbd' (ns.getD j 0) (by rw [List.getD_eq_getElem?_getD, List.getElem?_eq_getElem hj']; simp)
          show InLong (ns.getD j 0) ∧ _
          rw [preSum_getD]
          have := hb (j + 1)
          exact ⟨inLong_of hv.1 (Int.le_trans hv.2 (by decide)), inLong_of (Int.add_nonneg (by decide) this.1) (Int.add_le_add_left this.2 2)⟩
        · have hm' : Moved wr G s' s₃ := ⟨hm.heap, hm.gens, hm.drawn, hm.os, Nat.le_trans (Nat.le_succ _) hm.toks⟩
          have past' := past.moved hwr hm' hGb
          obtain ⟨g'', gst'⟩ := past'.gi ok hw g hna
          rw [← hits] at g''
          have e : preSum (fun j => ns.getD j 0) es.length = ns.sum := by rw [preSum_getD, List.take_of_length_le (by lia)]
          rw [e]
          exact h _ s₃ o (some a) X (.ret (.int _ _)) (SStep.of gst') (fi.gstep gst' g'')
    · cases hG
  · cases hG
noncomputable def kStr (fe : List DV → Option DV) (z : Str) : SF := fun σ => (mVar 0 σ.ρ).bind fun d => match d with
  | .air => σ.air.bind fun its => (genD fe its).bind fun es => (asStrs es).bind fun ys => if JoinOk z ys = true ∧ (Txt.join z ys).length ≤ sizeB then some (.ret (.str (Txt.join z ys)), σ) else none
  | _ => none
theorem asStrs_at : ∀ {es : List DV} {ys : List Str}, asStrs es = some ys → ys.length = es.length ∧ ∀ (j : Nat) e, es[j]? = some e → ∃ y, ys[j]? = some y ∧ e = .str y
  | [], ys, h => by cases h; exact ⟨rfl, fun j e q => by simp at q⟩
  | d :: r, ys, h => by
    cases d <;> simp only [asStrs, Option.map_eq_some_iff, reduceCtorEq] at h
    obtain ⟨ys', h, rfl⟩ := h
    obtain ⟨h1, h2⟩ := asStrs_at h
    refine ⟨by simp [h1], fun j e q => ?_⟩
    cases j with
    | zero => simp at q; subst q; exact ⟨_, rfl, rfl⟩
    | succ j => simpa using h2 j e (by simpa using q)
theorem body_str {c₀ P : Addr} {fe : List DV → Option DV} {elt : Expr} {x ex : Str} {z : Str} {zt : Tok} {xa xb : Str} {np pa pb pt gp ap xp cp rp : Pos} {kt : Nat} {scope : Scope} (ok : CfgOK c) (k : AirK c K) (hw : Which c c₀ P) (hx : N[0]? = some x) (helt : SE prog w c scope.names [xa, xb] elt fe)
    (hk : sc.lookup ex = some .globalImplicit) (hmg : c.mg ex = some (.str z zt)) (hd : (ex == ("__debug__" : Str)) = false)
    (hd1 : (x == ("__classdict__" : Str)) = false) (hd2 : (x == ("__debug__" : Str)) = false)
    (hco : scope.isCoroutine = false) (hcell : (scope.names.all fun y => y.2 != .cell && y.2 != .free) = true) (h0 : scope.names.lookup (".0" : Str) = some NameKind.local)
    (hxa : scope.names.lookup xa = some .local) (hxb : scope.names.lookup xb = some .local) (hab : xa ≠ xb) (hkind : scope.kind = .function) (hline : (ap.endLine == cp.line) = true) :
    SSc prog w c N (n + 2) sc (.ref c₀) [.Return (some (.Call (.Attribute (.Name ex np) "join" ap) [.GeneratorExp elt [⟨.Tuple [.Name xa pa, .Name xb pb] kt pt, .Name x xp, [], 0⟩] scope gp] [] cp)) rp] (kStr fe z) := by
  intro A env s σ o aA X fl σ' he hcode hA fi hG Q E h
  obtain ⟨d, hd0, hG⟩ := obind hG
  split at hG
  · obtain ⟨its, hits, hG⟩ := obind hG
    obtain ⟨es, hes, hG⟩ := obind hG
    obtain ⟨ys, hys, hG⟩ := obind hG
    split at hG
    · rename_i hbd
      cases hG
      have g := fi.gi
      obtain ⟨a, ha⟩ := airAt g hits
      subst ha
      rw [hits] at g
      obtain ⟨m, cm, hn, _⟩ := fi.nm
      refine wpAny_execs_cons (wpAny_Return_some (method_raw rfl rfl hline (load_global he fi.inv.glo hk hmg hd fun pl => ?_)))
      refine GM.join (PyProof.Rows.callWith_method1 (wpAny_items_cons ?_ rfl) rfl rfl)
      refine gen_air (n := n) (iter := .Name x xp) ok k hw he hcode hA g hn (se_var (N := N) hx hd1 hd2) hd0 helt hes hco hcell h0 hxa hxb hab hkind (fun _ => rfl) fun a' s' fp wr G St W hT hst hfp ha' hwr hGb past => ?_
      obtain ⟨_, _, _, _, _, _, _, _, e₀, _, h1, _, _, _, _, hz, rl⟩ := g.look
      cases e₀
      have hna : some a ≠ some P := fun e => by
        cases e
        rcases hw with ⟨_, e⟩ | ⟨_, e⟩
        · exact (GI.nP ok h1).1 e
        · exact (GI.nP ok h1).2 e
      obtain ⟨hlen, hat⟩ := asStrs_at hys
      have hl := (genD_at hes).1
      have hrl := rl.length
      have hzB : sizeB = 1048576 := rfl
      refine wpAny_items_nil (PySem.SC.joinGen (WalksS.in4_2 W) hT hst hfp ha' (fun j y hy => ?_) (fun s₃ l hm hacc => ?_) (lt_sizeLine (by lia)))
      · obtain ⟨e, he', hr⟩ := hy
        obtain ⟨y', _, rfl⟩ := hat j e he'
        obtain ⟨⟨t, rfl⟩, _⟩ := hr
        exact ⟨_, _, rfl⟩
      · have el : l.map (·.1) = ys := by
          apply List.ext_getElem?
          intro j
          have hsz : l.length = es.length := by have := hacc.1; simpa [strValues] using this
          rw [List.getElem?_map]
          cases hj : l[j]? with
          | none =>
            have : l.length ≤ j := by simpa using hj
            rw [List.getElem?_eq_none (by lia)]; rfl
          | some p =>
            obtain ⟨e, he', hr⟩ := hacc.2 j (.str p.1 p.2) (by simp [strValues, hj])
            obtain ⟨y', hy', rfl⟩ := hat j e he'
            obtain ⟨⟨t, e⟩, _⟩ := hr
            cases e
            rw [hy']; rfl
        rw [el]
        refine ⟨hbd.1, fun t' kk => ?_⟩
        have past' := past.moved hwr hm hGb
        obtain ⟨g'', gst'⟩ := past'.gi ok hw g hna
        rw [← hits] at g''
        have kz : ∀ b o, s₃.heap.get? b = some o → s₃.heap.get? b = some o := fun _ _ e => e
        exact h _ { s₃ with toks := kk } o (some a) X (.ret (.str _ _ hbd.2)) (SStep.of gst') (fi.gstep (s' := { s₃ with toks := kk }) gst' (g''.pure (tk := kk) kz))
    · cases hG
  · cases hG
end
end Mine
end

section
open PySem PySem.Calls PyProof.Rows PySem.W
set_option maxRecDepth 100000
namespace Mine
section
variable {prog : Program} {w : World} {c : Cfg} {K : Frag} {A : Around} {E : Value → Shared → Prop} {h : Heap} {g : Array GenState} {d : Drawn} {t : Nat} {os : OsState}
theorem slot_wd_get : Slot "wrapper_descriptor" "__get__" "wrapper_descriptor.__get__" := .of (owner := "wrapper_descriptor") (n := "__get__") (by rw [typeLookup_type, builtinLookup_eq_fast]; kernel_rfl) (by decide +kernel) (by decide +kernel) (by decide +kernel) (by first | exact .inl (by decide +kernel) | exact .inr (by decide +kernel)) (by rw [isSubtype_type]; kernel_rfl)
theorem entry_wd_get : entryFor table "wrapper_descriptor.__get__" = some Builtin.«wrapper_descriptor.__get__» := entryFor_of_tree (by kernel_rfl)
theorem args_wd_get (a b c : Value) : argsOk "wrapper_descriptor.__get__" ⟨[a, b, c], []⟩ := by unfold argsOk; kernel_rfl
theorem type_list_len : typeOf (.builtin "list.__len__") = pure (.type "wrapper_descriptor") := by show builtinType _ = _; rw [builtinType_eq_fast]; kernel_rfl
theorem type_list_init : typeOf (.builtin "list.__init__") = pure (.type "wrapper_descriptor") := by show builtinType _ = _; rw [builtinType_eq_fast]; kernel_rfl
theorem inter_list : ".".intercalate (["list"] : List String) = "list" := by decide +kernel
theorem wd_get {x : Addr} {ox : Obj} {C₀ : Value} {id nm : String} {C : Value} {Q : Fin → Shared → Prop} (hC : C ≠ .none) (hown : id.cutAt '.' = ["list", nm]) (hx : h.get? x = some ox) (hcl : ox.cls = C₀) (hi : Looks (model prog w) h (isSubtype C₀ (.type "list")) true)
    (hq : Q (.done (.ret (.ref h.objs.size))) ⟨h.push { cls := .type "method-wrapper", data := .fields #[.builtin id, .ref x] }, g, d, t, os⟩) :
    wpAny (model prog w) A (Builtin.«wrapper_descriptor.__get__» ⟨[.builtin id, .ref x, C], []⟩) Q E ⟨h, g, d, t, os⟩ := by
  unfold Builtin.«wrapper_descriptor.__get__»
  have hC' : (C == Value.none) = false := by simpa using hC
  have hL : ∀ nm : String, ["list", nm].dropLast = ["list"] := fun _ => rfl
  repeat (first
    | (with_reducible refine wpAny_loadPart_at hx ?_; rw [hcl])
    | (simp only [hL, inter_list])
    | (with_reducible refine Looks.at hi ?_)
    | (simp only [hC', hown, Bool.false_eq_true, if_false])
    | wp_step
    | dsimp only)
  all_goals exact hq
theorem k_wd1 : builtinKind "wrapper_descriptor.__get__" = some .slot := by decide +kernel
theorem k_wd2 : splitId "wrapper_descriptor.__get__" = some ("wrapper_descriptor", "__get__") := by decide +kernel
theorem sub_wd : isSubtype (.type "wrapper_descriptor") (.type "wrapper_descriptor") = pure true := by rw [isSubtype_type]; kernel_rfl
theorem super_ga {so D x C : Addr} {id nm : String} {ox : Obj} {l₀ l : List Value} {name : Str} {tk : Tok} {Q : Fin → Shared → Prop}
    (hso : h.get? so = some { cls := .type "super", dict := none, data := .fields #[.ref D, .ref x, .ref C], slots := #[] }) (hno : Looks (model prog w) h (opaqueClassAbove (.ref C)) none)
    (hC : Looks (model prog w) h (mroOf (.ref C)) l₀) (hl : (l₀.dropWhile (· != .ref D)).drop 1 = l) (X : K.In h)
    (hf : alongIn K name l = some (some (.builtin id))) (hty : typeOf (.builtin id) = pure (.type "wrapper_descriptor")) (hown : id.cutAt '.' = ["list", nm]) (hx : h.get? x = some ox) (hcl : ox.cls = .ref C) (hi : Looks (model prog w) h (isSubtype (.ref C) (.type "list")) true) (hxC : x ≠ C) (hn : (name == ("__class__" : Str)) = false)
    (hq : Q (.done (.ret (.ref h.objs.size))) ⟨h.push { cls := .type "method-wrapper", data := .fields #[.builtin id, .ref x] }, g, d, t, os⟩) :
    wpAny (model prog w) A (Builtin.«super.__getattribute__» ⟨[.ref so, .str name tk], []⟩) Q E ⟨h, g, d, t, os⟩ := by
  have hlk := slot_wd_get.lookup
  have hne : (Value.ref x == Value.ref C) = false := by simp [hxC]
  have hdt : ({ cls := .type "super", dict := none, data := .fields #[.ref D, .ref x, .ref C], slots := #[] } : Obj).data = .fields #[.ref D, .ref x, .ref C] := rfl
  have f0 : (#[.ref D, .ref x, .ref C] : Array Value)[0]? = some (.ref D) := rfl
  have f1 : (#[.ref D, .ref x, .ref C] : Array Value)[1]? = some (.ref x) := rfl
  have f2 : (#[.ref D, .ref x, .ref C] : Array Value)[2]? = some (.ref C) := rfl
  have get : ∀ {A : Around} {E : Value → Shared → Prop} {Q' : Value → Shared → Prop}, Q' (.ref h.objs.size) ⟨h.push { cls := .type "method-wrapper", data := .fields #[.builtin id, .ref x] }, g, d, t, os⟩ → wpAny (model prog w) A (call (.builtin "wrapper_descriptor.__get__") [.builtin id, .ref x, .ref C]) Q' E ⟨h, g, d, t, os⟩ := by
    intro A E Q' hq'
    have hin : Looks (model prog w) h (isInstance (.builtin id) (.type "wrapper_descriptor")) true := fun A Q E s k q => wpAny_bind (wpAny_of_eq hty (wpAny_of_eq sub_wd q))
    refine wpAny_call (codeAny_call_builtin slot_wd_get.plain entry_wd_get ?_)
    refine check_slot (i := "wrapper_descriptor.__get__") (owner := "wrapper_descriptor") (n := "__get__") (rest := [.ref x, .ref C]) k_wd1 k_wd2 hin (args_wd_get _ _ _) ?_
    exact wd_get (C := .ref C) (nm := nm) (by simp) hown hx hcl hi hq'
  unfold Builtin.«super.__getattribute__»
  repeat (first
    | (with_reducible refine wpAny_field hso hdt f0 ?_) | (with_reducible refine wpAny_field hso hdt f1 ?_) | (with_reducible refine wpAny_field hso hdt f2 ?_)
    | (with_reducible refine ks_wpAny_notOpaque hno ?_)
    | (with_reducible refine Looks.at hC ?_; rw [hl])
    | (refine ks_forIn_along X (fun _ _ => rfl) rfl ?_ hf)
    | (with_reducible refine wpAny_of_eq hty ?_)
    | (with_reducible refine get ?_)
    | (with_reducible refine ⟨_, rfl, ?_⟩)
    | (simp only [hn, hne, Bool.or_false, Bool.false_eq_true, if_false])
    | wp_step
    | dsimp only)
  all_goals exact hq
end
end Mine
end

section
open PySem PySem.Calls PyProof.Rows PySem.W
set_option maxRecDepth 100000
namespace Mine
section
variable {prog : Program} {w : World} {c : Cfg} {K : Frag} {A : Around} {E : Value → Shared → Prop} {h : Heap} {g : Array GenState} {d : Drawn} {t : Nat} {os : OsState}
theorem getMethod_super {so D x C : Addr} {id nm : String} {ox : Obj} {l₀ l : List Value} {name : Str} {pl : Sem Bool} {Q : Value × List Value → Shared → Prop}
    (hso : h.get? so = some { cls := .type "super", dict := none, data := .fields #[.ref D, .ref x, .ref C], slots := #[] }) (hno : Looks (model prog w) h (opaqueClassAbove (.ref C)) none)
    (hC : Looks (model prog w) h (mroOf (.ref C)) l₀) (hl : (l₀.dropWhile (· != .ref D)).drop 1 = l) (X : K.In h)
    (hf : alongIn K name l = some (some (.builtin id))) (hty : typeOf (.builtin id) = pure (.type "wrapper_descriptor")) (hown : id.cutAt '.' = ["list", nm]) (hx : h.get? x = some ox) (hcl : ox.cls = .ref C) (hi : Looks (model prog w) h (isSubtype (.ref C) (.type "list")) true) (hxC : x ≠ C) (hn : (name == ("__class__" : Str)) = false)
    (hq : Q (.ref h.objs.size, []) ⟨h.push { cls := .type "method-wrapper", data := .fields #[.builtin id, .ref x] }, g, d, t + 1, os⟩) :
    wpAny (model prog w) A (getMethod (.ref so) name pl) Q E ⟨h, g, d, t, os⟩ := by
  have hT : ∀ t', (⟨h, g, d, t', os⟩ : Shared).TypeIs (.ref so) "super" := fun _ => ⟨_, hso, rfl⟩
  have run : wpAny (model prog w) A (call (.builtin "super.__getattribute__") [.ref so, .str name t]) (fun v s' => v = .ref h.objs.size ∧ s' = ⟨h.push { cls := .type "method-wrapper", data := .fields #[.builtin id, .ref x] }, g, d, t + 1, os⟩) (fun _ _ => False) ⟨h, g, d, t + 1, os⟩ :=
    wpAny_call_entry PySem.F.ks_slot_super_ga (hT _) PySem.F.ks_entry_super_ga (super_ga hso hno hC hl X hf hty hown hx hcl hi hxC hn ⟨_, rfl, rfl, rfl⟩) (PySem.F.ks_gaArgs_super _ _)
  unfold getMethod
  refine wpAny_bind (wpAny_specialOf (hT _) PySem.F.ks_slot_super_ga.lookup ?_)
  show wpAny _ _ (if (Manifest.canonical "super.__getattribute__" != "object.__getattribute__") = true then _ else _) _ _ _
  rw [if_pos PySem.F.ks_canon_super_ga]
  unfold getAttr getAttrBy
  refine wpAny_bind (wpAny_bind (wpAny_mkText (wpAny_holding (wpAny_bind (wpAny_typeOf (hT _) (wpAny_bind (wpAny_of_eq PySem.F.ks_slot_super_ga.lookup ?_)))))))
  show wpAny _ _ (getAttrByItsOwn (.ref so) (.str name t) (.type "super") (.builtin "super.__getattribute__") true false) _ _ _
  unfold getAttrByItsOwn hookBefore callGetattribute boundAndCalled
  refine wpAny_bind (wpAny_of_eq (show (if onTheHeap (.type "super") then typeLookup (.type "super") "__getattr__" else pure none) = pure none from rfl) (wpAny_bind (wpAny_attempt (wpAny_holding ?_))))
  show wpAny _ _ (bindSpecial (.builtin "super.__getattribute__") (.ref so) >>= _) _ _ _
  refine wpAny_bind (wpAny_of_eq (PySem.F.ks_slot_super_ga.bind _) (wpAny_mono run (fun v s' hv => ?_) fun _ _ z => z.elim))
  obtain ⟨rfl, rfl⟩ := hv
  exact wpAny_pure (wpAny_pure hq)
theorem call_bound {s : Shared} {b x : Addr} {id : String} {Bb : Builtin} {Q : Value → Shared → Prop} (hb : s.heap.get? b = some { cls := .type "method-wrapper", data := .fields #[.builtin id, .ref x] }) (hp : plainId id = true) (he : entryFor table id = some Bb) (hk : builtinKind id = some .slot) (ha : argsOk id ⟨[.ref x], []⟩)
    (hq : wpAny (model prog w) A.in1 (Bb ⟨[.ref x], []⟩) (fun fin s' => ∃ v, fin = .done (.ret v) ∧ Q v s') E s) : wpAny (model prog w) A (call (.ref b) []) Q E s := by
  refine wpAny_call (codeAny_of_tree ?_)
  show wpAny _ A.in1 (callAny (.ref b) ⟨[], []⟩) _ _ _
  unfold callAny
  refine wpAny_bind (wpAny_load hb ?_)
  show wpAny _ A.in1 (checkBoundCall id ⟨[.ref x], []⟩ >>= fun _ => again (.builtin id ⟨[.ref x], []⟩)) _ _ _
  refine wpAny_bind ?_
  unfold checkBoundCall
  have hgo : codeAny (model prog w) A (.builtin id ⟨[.ref x], []⟩) (fun r s' => match r with | .ok (.ret v) => Q v s' | .ok _ => False | .error e => E e s') s := by
    refine codeAny_builtin he ?_
    rw [Around.under_plainId hp]
    refine wpAny_mono hq (fun fin s' hf => ?_) fun _ _ z => z
    obtain ⟨v, rfl, hv⟩ := hf
    exact hv
  have fin : (Code.builtin id ⟨[.ref x], []⟩).quiet = true ∧ codeAny (model prog w) A (.builtin id ⟨[.ref x], []⟩) (fun r s' => match r with | .ok (.ret v) => Q v s' | .ok _ => False | .error e => E e s') s := ⟨plainId_quiet hp _, hgo⟩
  cases hsig : Manifest.signature? id with
  | none => exact wpAny_pure (wpAny_pure fin)
  | some sig =>
    simp only [argsOk, hsig] at ha
    have h2 : Bind.checkArgs id sig ⟨[.ref x], []⟩ = pure () := ha
    rw [hk]
    show wpAny _ _ (Bind.checkArgs id sig ⟨[.ref x], []⟩) _ _ _
    rw [h2]
    exact wpAny_pure (wpAny_pure fin)
theorem callWith_wrap {M : Model} {s : Shared} {pos : Pos} {b : Addr} {v₁ v₂ : Value} {Q : Value → Shared → Prop} (hb : s.heap.get? b = some { cls := .type "method-wrapper", data := .fields #[v₁, v₂] }) (h : wpAny M A (call (.ref b) []) Q E s) : wpAny M A (callWith pos (.ref b) [] [] []) Q E s := by
  unfold callWith
  refine wpAny_bind (wpAny_holding (PyProof.Rows.evalArgs_none (wpAny_bind (wpAny_standAt ?_))))
  simp only [List.any_nil, Bool.or_false]
  refine wpAny_bind (m := keeperOf (.ref b)) ?_
  unfold keeperOf
  refine wpAny_bind (wpAny_load hb ?_)
  have e1 : (Value.type "method-wrapper" != Value.type "method") = true := by decide
  have e2 : (Value.type "method-wrapper" == Value.type "builtin_function_or_method" || Value.type "method-wrapper" == Value.type "method-wrapper") = true := by decide
  simp only [e1, e2, if_true]
  refine wpAny_pure ?_
  exact wpAny_bind (wpAny_mono h (fun r s₂ hr => wpAny_bind (wpAny_holding (wpAny_point (wpAny_pure hr)))) fun _ _ x => x)
end
end Mine
end

section
open PySem PySem.Calls PyProof.Rows PySem.W
set_option maxRecDepth 100000
namespace Mine
section
variable {prog : Program} {w : World} {c : Cfg} {K : Frag} {A : Around} {n : Nat}
structure SupK (c : Cfg) (K : Frag) (prog : Program) : Prop where
  cls : ∃ oc cd, c.h₁.get? c.C = some oc ∧ oc.data = .cls cd ∧ cd.mro = [.ref c.C, .type "list", .type "object"]
  noq : nsIn K cStatics "thirdparty.any" = some none
  self : mroIn K c.C (.ref c.C) = some true
  len : alongIn K "__len__" [.type "list", .type "object"] = some (some (.builtin "list.__len__"))
  init : alongIn K "__init__" [.type "list", .type "object"] = some (some (.builtin "list.__init__"))
  off : c.C ≠ c.P₁ ∧ c.C ≠ c.P₂
  top : (prog.main.scope.names.lookup ("super" : Str)).isSome = false
inductive SupCode (c : Cfg) (prog : Program) (fd : FuncData) : Prop
  | mk (c₀ : Addr) (ob : Obj) (vs : Array Value) (t : Tok) (file : Str) (tf : Tok) (h1 : fd.code = .ref c₀) (h2 : c.h₁.get? c₀ = some ob) (h3 : ob.data = .fields vs) (h4 : vs[1]? = some (.str fd.qualname t)) (h5 : c₀ ≠ c.P₁) (h6 : c₀ ≠ c.P₂) (h7 : vs[2]? = some (.str file tf)) (h8 : ((prog.main.file : Str) == file) = true) : SupCode c prog fd
structure SupFn (c : Cfg) (prog : Program) (f : Addr) (o : Obj) (fd : FuncData) (body : List Stmt) (xs : List Str) : Prop where
  ob : c.h₁.get? f = some o
  data : o.data = .func fd
  off : f ≠ c.P₁ ∧ f ≠ c.P₂
  hbody : fd.body = .stmts body
  globals : fd.globals = mainGlobals
  builtins : fd.builtins = builtinsNs
  code : SupCode c prog fd
  cell : ∃ cc, fd.closure.lookup ("__class__" : Str) = some cc ∧ c.h₁.IsCell cc (some (.ref c.C)) ∧ cc ≠ c.P₁ ∧ cc ≠ c.P₂
  bind : ∀ (s : Shared) (vs : List Value), Glo c s.heap → vs.length = xs.length → BindsTo s fd ⟨vs, []⟩ (xs.zip vs)
  nocell : ∀ x ∈ fd.scope.names, x.2 ≠ .cell
  pars : ∀ x ∈ xs, fd.scope.names.lookup x = some .local
  nodup : xs.Nodup
  ksup : fd.scope.names.lookup ("super" : Str) = some .globalImplicit
  kcls : fd.scope.names.lookup ("__class__" : Str) = some .free
  arg : ∃ ar, (fd.params.posonlyargs ++ fd.params.args).head? = some ar ∧ xs[0]? = some ar.arg ∧ (ar.arg == ("__classdict__" : Str)) = false
  co : fd.scope.isCoroutine = false
  gen : fd.scope.isGenerator = false
  kind : fd.scope.kind = .function
theorem Name_super_ {M : Model} {A : Around} {E : Value → Shared → Prop} {s : Shared} {env : Env} {x : Str} {Q : Value → Shared → Prop} (hk : env.scope.kind = .function) (hx : env.kindOf x = some .globalImplicit) (h : wpAny M A (loadGlobal env x) Q E s) : wpAny M A (loadName env x) Q E s := by
  unfold loadName
  simp only [Env.blockKind, hk, hx, ScopeKind.isAnnotationScope, Bool.false_and, Bool.false_eq_true, if_false]
  exact h
theorem sup_eval {s : Shared} {f a L : Addr} {o : Obj} {fd : FuncData} {body body' : List Stmt} {xs : List Str} {id nm : String} {Bb : Builtin} {attr : Str} {p0 p1 apos pos : Pos} {dx : Addr} {its : Array Value} {z : Nat} {od : Obj} {m : Str → Option Value} {Q : Value → Shared → Prop} {E : Value → Shared → Prop}
    (sf : SupFn c prog f o fd body xs) (sk : SupK c K prog) (k : AirK c K) (g : Glo c s.heap) (hmg : c.mg "super" = none) (hmb : c.mb "super" = some (.type "super"))
    (hal : alongIn K attr [.type "list", .type "object"] = some (some (.builtin id))) (hty : typeOf (.builtin id) = pure (.type "wrapper_descriptor")) (hown : id.cutAt '.' = ["list", nm]) (hat : (attr == ("__class__" : Str)) = false)
    (hp : plainId id = true) (hent : entryFor table id = some Bb) (hkd : builtinKind id = some .slot) (hargs : ∀ x, argsOk id ⟨[x], []⟩)
    (ho : s.heap.get? a = some (airObj c.C dx its z)) (hd : s.heap.get? dx = some od) (hns : s.heap.Ns L m) (hself : ∀ x, xs[0]? = some x → m x = some (.ref a))
    {pl : Env → Sem Bool} (hev : ∀ env : Env, eval (.Call (.Attribute (.Call (.Name "super" p0) [] [] p1) attr apos) [] [] pos) env = (do
      let ov ← attributeBase (.Call (.Name "super" p0) [] [] p1) attr env (eval (.Call (.Name "super" p0) [] [] p1) env)
      standAt apos.atName
      let (f, first) ← holding [ov] (getMethod ov attr (pl env))
      callWith pos f first (backTo pos (starEach [] env)) []))
    (hq : ∀ h' tk, (∀ b o, s.heap.get? b = some o → h'.get? b = some o) → wpAny (model prog w) A.in1 (Bb ⟨[.ref a], []⟩) (fun fin s' => ∃ v, fin = .done (.ret v) ∧ Q v s') E { s with heap := h', toks := tk }) :
    PySem.wpAt (model prog w) A (.func body' (callEnv fd L f)) (eval (.Call (.Attribute (.Call (.Name "super" p0) [] [] p1) attr apos) [] [] pos) (callEnv fd L f)) Q E s := by
  obtain ⟨c₀, oc, vs, t, file, tf, e1, e2, e3, e4, n1, n2, e5, e6⟩ := sf.code
  obtain ⟨cc, q1, ⟨oq, q2, q3⟩, q4, q5⟩ := sf.cell
  obtain ⟨ar, a1, a2, a3⟩ := sf.arg
  obtain ⟨oC, cd, r1, r2, r3⟩ := sk.cls
  have X := k.at g
  have hkind : (callEnv fd L f).scope.kind = .function := sf.kind
  have kof : ∀ x, (callEnv fd L f).kindOf x = fd.scope.names.lookup x := fun x => rfl
  have hC := g.keep _ _ r1 sk.off.1 sk.off.2
  refine ks_wpAt_MethodCall (ks_wpAt_super_base (f := f) (fd := fd) (ar := ar) ((kof _).trans sf.ksup) ((kof _).trans sf.kcls) hat rfl (g.keep _ _ sf.ob sf.off.1 sf.off.2) sf.data a1 e1 (g.keep _ _ e2 n1 n2) e3 e5 e6 sk.top ?_) (hev _)
  refine Name_super_ hkind ((kof _).trans sf.ksup) (Calls.loadGlobal_builtin (show s.heap.Ns (callEnv fd L f).globals c.mg from (show (callEnv fd L f).globals = mainGlobals from sf.globals) ▸ g.g) hmg ((show (callEnv fd L f).builtins = builtinsNs from sf.builtins) ▸ g.b) hmb ?_)
  refine ⟨rfl, ?_⟩
  have hcell : s.heap.IsCell cc (some (.ref c.C)) := ⟨oq, g.keep _ _ q2 q4 q5, q3⟩
  refine wpAny_loadName_free hkind ((kof _).trans sf.kcls) q1 hcell ?_ (by decide +kernel)
  have hpar : (callEnv fd L f).kindOf ar.arg = some .local := (kof _).trans (sf.pars _ (List.mem_of_getElem? a2))
  refine wpAny_loadName_local hkind hpar hns (hself _ a2) ?_
  obtain ⟨hh, gg, dd, tt, os⟩ := s
  refine ks_wpAny_isType_cls hC r2 ⟨rfl, ?_⟩
  have nocls : ∀ c', (airObj c.C dx its z).data ≠ .cls c' := fun c' => by unfold airObj; simp
  refine ks_wpAny_call_super hC r2 ho rfl nocls (looks_mroIn X sk.self) fun h₁ hso k₁ => ?_
  have X₁ := X.keeps k₁
  have ho₁ := k₁ _ _ ho
  have hd₁ := k₁ _ _ hd
  have haC : a ≠ c.C := fun e => by rw [e, hC] at ho; cases ho; exact nocls _ r2
  have hmro : Looks (model prog w) h₁ (mroOf (.ref c.C)) [.ref c.C, .type "list", .type "object"] := by
    obtain ⟨kk, kd, ks, kl⟩ := oC
    dsimp only at r2
    subst r2
    rw [← r3]
    exact ((Looks.ld (part := none) (k₁ _ _ hC)).andThen .now).andThen .now
  refine getMethod_super (nm := nm) (ox := airObj c.C dx its z) (l := [.type "list", .type "object"]) hso (looks_opaque X₁ sk.noq) hmro (by simp) X₁ hal hty hown ho₁ rfl (looks_mroIn X₁ k.sub) haC hat ?_
  refine callWith_wrap (Heap.get?_push_size _ rfl) (call_bound (Heap.get?_push_size _ rfl) hp hent hkd (hargs _) (hq _ _ fun b o e => Heap.get?_push_of_some _ (k₁ b o e)))
end
end Mine
end

section
open PySem PySem.Calls PyProof.Rows PySem.W
set_option maxRecDepth 100000
namespace Mine
section
variable {prog : Program} {w : World} {c : Cfg} {K : Frag} {n : Nat}
noncomputable def countF : List DV → Air → Option (DV × Air) := fun ds α => match ds, α with
  | [.air], some its => some (.int its.length, some its)
  | _, _ => none
theorem fn_count {f : Addr} {o : Obj} {fd : FuncData} {p0 p1 apos pos rp : Pos} {pl : Env → Sem Bool}
    (sf : SupFn c prog f o fd [.Return (some (.Call (.Attribute (.Call (.Name "super" p0) [] [] p1) "__len__" apos) [] [] pos)) rp] ["self"]) (sk : SupK c K prog) (k : AirK c K) (hmg : c.mg "super" = none) (hmb : c.mb "super" = some (.type "super"))
    (hev : ∀ env : Env, eval (.Call (.Attribute (.Call (.Name "super" p0) [] [] p1) "__len__" apos) [] [] pos) env = (do
      let ov ← attributeBase (.Call (.Name "super" p0) [] [] p1) "__len__" env (eval (.Call (.Name "super" p0) [] [] p1) env)
      standAt apos.atName
      let (f, first) ← holding [ov] (getMethod ov "__len__" (pl env))
      callWith pos f first (backTo pos (starEach [] env)) [])) : FnOK prog w c f (n + 1) countF := by
  intro A s X aA α vs ds d α' hA g r hF Q E h
  unfold countF at hF
  split at hF
  · rename_i its
    cases hF
    cases r using RelL.consC with
    | cons r0 rs =>
      cases rs using RelL.nilC
      cases r0 using Rel.airC with
      | @air a ha =>
        subst ha
        obtain ⟨dx, vs, z, hsh, tk, t, ep, its₀, e₀, hX, h0, ho, ndx, nda, hdx, hz, rl⟩ := g.look
        cases e₀
        obtain ⟨c₀, oc, ovs, t0, file, tf, e1, e2, e3, e4, n1, n2, _, _⟩ := sf.code
        have hroom : A.depth < recursionLimit := by have := hA.depth; lia
        refine wpAny_call (ks_codeAny_call_defAt hroom (g.inv.glo.keep _ _ sf.ob sf.off.1 sf.off.2) sf.data g.inv.glo.lim ⟨c₀, oc, ovs, t0, e1, g.inv.glo.keep _ _ e2 n1 n2, e3, e4⟩ sf.hbody (sf.bind s [.ref a] g.inv.glo rfl) sf.nocell (fun x hx => sf.pars _ (List.of_mem_zip hx).1) (fun h₀ hns hk => ?_) sf.co sf.gen sf.kind)
        refine ks_wpAt_execs_cons (ks_wpAt_Return_some ?_)
        refine sup_eval (a := a) (m := fun x => (([("self" : Str)] : List Str).zip [Value.ref a]).reverse.lookup x) sf sk k (g.inv.glo.keeps hk) hmg hmb sk.len type_list_len (nm := "__len__") (by decide +kernel) (by decide +kernel) slot_list_len.plain entry_list_len (by decide +kernel) args_list_len (hk _ _ ho) (hk _ _ hdx) hns (fun x hx => ?_) hev fun h' tk' hk' => ?_
        · cases hx; rfl
        · have hl := rl.length
          have ho' := hk' _ _ (hk _ _ ho)
          show wpAny _ _ (seqSize a >>= fun n => retInt n) _ _ _
          refine wpAny_bind (wpAny_bind (wpAny_loadPart ho' (wpAny_pure ?_)))
          have kk : ∀ b o, s.heap.get? b = some o → h'.get? b = some o := fun b o e => hk' b o (hk b o e)
          refine wpAny_bind (wpAny_mkInt (wpAny_pure ⟨_, rfl, ?_⟩))
          have e : ((vs.toArray.size : Nat) : Int) = its.length := by simp [hl]
          rw [e]
          exact h _ { s with heap := h', toks := tk' + 1 } (some a) X (.int _ _) (GStep.pure kk) (g.pure kk)
  · cases hF
end
end Mine
end

section
open PySem PySem.Calls PyProof.Rows PySem.W
set_option maxRecDepth 100000
namespace Mine
section
variable {prog : Program} {w : World} {c : Cfg} {K : Frag} {A : Around} {C : Addr} {R : Result → Shared → Prop} {h : Heap} {g : Array GenState} {d : Drawn} {t : Nat} {os : OsState}
inductive NewObj (K : Frag) (C : Addr) : Prop
  | mk (oc : Value) (od : Option Addr) (cd : ClassData) (sl : Array (Option Value)) (h1 : K.lookup C = some ⟨oc, od, .cls cd, sl⟩) (h2 : cd.abstract = false) (h3 : cd.hasDel = false) (h4 : (sl.toList[4]?).join = some (.builtin "list.__new__")) (h5 : cd.mro = [.ref C, .type "list", .type "object"]) : NewObj K C
structure NewK (K : Frag) (C : Addr) : Prop where
  obj : NewObj K C
  call : specialIn K (.ref C) "__call__" = some (some (.builtin "type.__call__"))
  typ : instIn K (.ref C) (.type "type") = some true
theorem NewK.mro {M : Model} (nk : NewK K C) (X : K.In h) : Looks M h (mroOf (.ref C)) [.ref C, .type "list", .type "object"] := by
  obtain ⟨oc, od, cd, sl, ho, e1, e2, e3, e4⟩ := nk.obj
  have hc : clsIn K C = some cd := by unfold clsIn; rw [ho]
  exact e4 ▸ (looks_clsIn X hc).andThen .now
theorem NewK.made {M : Model} (nk : NewK K C) (X : K.In h) : Looks M h (Bind.madeBy (.ref C)) (some "list.__new__") := by
  have hm := nk.mro (M := M) X
  obtain ⟨oc, od, cd, sl, ho, e1, e2, e3, e4⟩ := nk.obj
  intro A Q E s k q
  unfold Bind.madeBy
  refine wpAny_bind (hm A _ E s k ?_)
  rw [List.forIn_cons]
  refine wpAny_bind (wpAny_bind (wpAny_bind (wpAny_bind (wpAny_loadPart (k _ _ (X _ _ ho)) (wpAny_pure ?_)))))
  dsimp only
  rw [← Array.getElem?_toList, e3]
  exact wpAny_pure (wpAny_pure (wpAny_pure q))
theorem NewK.base {M : Model} (nk : NewK K C) (X : K.In h) : Looks M h (Bind.staticBase (.ref C)) (.ref C) := by
  have hm := nk.mro (M := M) X
  have made := nk.made (M := M) X
  intro A Q E s k q
  unfold Bind.staticBase
  refine wpAny_bind (hm A _ E s k ?_)
  rw [List.forIn_cons]
  exact wpAny_bind (wpAny_bind (wpAny_bind (made A _ E s k (wpAny_pure (wpAny_pure (wpAny_pure q))))))
theorem NewK.sub {M : Model} (nk : NewK K C) (X : K.In h) (b : Value) (hb : b ∈ [.ref C, .type "list", .type "object"]) : Looks M h (isSubtype (.ref C) b) true := by
  obtain ⟨oc, od, cd, sl, ho, e1, e2, e3, e4⟩ := nk.obj
  have hc : clsIn K C = some cd := by unfold clsIn; rw [ho]
  refine looks_mroIn X ?_
  unfold mroIn
  rw [hc, Option.bind_some, e4]
  have : ([.ref C, .type "list", .type "object"] : List Value).contains b = true := by simpa using hb
  rw [this]
  rfl
theorem kind_ln : builtinKind "list.__new__" = some .builtinFn := by decide +kernel
theorem split_ln : splitId "list.__new__" = some ("list", "__new__") := by decide +kernel
theorem args_ln (a b : Value) : argsOk "list.__new__" ⟨[a, b], []⟩ := by unfold argsOk; kernel_rfl
theorem canon_ln : (Manifest.canonical "list.__new__" != Manifest.canonical "list.__new__") = false := by simp
theorem check_ln {M : Model} {A : Around} {E : Value → Shared → Prop} {oc : Value} {od : Option Addr} {cd : ClassData} {sl : Array (Option Value)} {tk : Tok} {Q : Unit → Shared → Prop} (hC : h.get? C = some ⟨oc, od, .cls cd, sl⟩) (sub : Looks M h (isSubtype (.ref C) (.type "list")) true) (base : Looks M h (Bind.staticBase (.ref C)) (.ref C)) (made : Looks M h (Bind.madeBy (.ref C)) (some "list.__new__")) (q : Q () ⟨h, g, d, t, os⟩) :
    wpAny M A (checkBuiltinCall "list.__new__" ⟨[.ref C, .int 2 tk], []⟩) Q E ⟨h, g, d, t, os⟩ := by
  simp only [checkBuiltinCall, kind_ln, split_ln]
  have hC1 : h.get? C = some ⟨oc, od, .cls cd, sl⟩ := hC
  repeat (first | (with_reducible refine ks_wpAny_isType_cls hC1 rfl ?_) | simp only [bne_self_eq_false, Bool.false_eq_true, if_false, Bool.not_true, beq_self_eq_true, if_true] | lk)
  all_goals exact q
theorem new_list {tk : Tok} (nk : NewK K C) (X : K.In h)
    (hq : R (.ok (.ret (.ref (h.objs.size + 1)))) ⟨(h.push emptyDict).push { cls := .ref C, dict := some h.objs.size, data := .seq #[] }, g, d, t, os⟩) :
    codeAny (model prog w) A (.call (.builtin "list.__new__") ⟨[.ref C, .int 2 tk], []⟩) R ⟨h, g, d, t, os⟩ := by
  have made := nk.made (M := model prog w) X
  have base := nk.base (M := model prog w) X
  have sub := nk.sub (M := model prog w) X (.type "list") (by simp)
  have typ := looks_instIn (M := model prog w) X nk.typ
  obtain ⟨oc, od, cd, sl, ho, e1, e2, e3, e4⟩ := nk.obj
  have hC := X _ _ ho
  have here : Looks (model prog w) h (Bind.madeHere "list.__new__" (.ref C)) () := base.andThen (made.andThen (Looks.of_pure (by simp only [Option.map_some, bne_self_eq_false, Bool.false_eq_true, if_false])))
  refine codeAny_of_tree ?_
  show wpAny _ A.in1 (do checkBuiltinCall "list.__new__" ⟨[.ref C, .int 2 tk], []⟩; again (.builtin "list.__new__" ⟨[.ref C, .int 2 tk], []⟩)) _ _ _
  refine wpAny_bind (check_ln hC sub base made (wpAny_pure ⟨plainId_quiet PySem.F.plain_list_new _, codeAny_builtin_stack PySem.F.entry_list_new rfl fun p st => ?_⟩))
  rw [Around.under_plainId PySem.F.plain_list_new _]
  have hown := owner_list_new
  simp only [hown]
  refine wpAny_bind (ks_wpAny_isType_cls hC rfl ?_)
  simp only [Bool.not_true, Bool.false_eq_true, if_false]
  refine wpAny_bind (Looks.at sub ?_)
  simp only [Bool.not_true, Bool.false_eq_true, if_false]
  refine wpAny_bind (wpAny_pure ?_)
  have hdict : typeHasDict (.ref C) = true := rfl
  rw [hdict]
  simp only [Bool.not_true, Bool.false_eq_true, if_false]
  refine wpAny_bind (wpAny_newObj_type ?_)
  show wpAny _ _ (newObj (.ref C) (.seq #[]) (some h.objs.size) >>= fun r => ret r) _ _ _
  refine wpAny_bind ?_
  unfold newObj
  dsimp only
  rw [if_neg (by simp)]
  show wpAny _ _ (newObjAsIs _ _ _) _ _ _
  unfold newObjAsIs classHasDel
  refine wpAny_bind (wpAny_alloc (wpAny_bind (wpAny_bind (wpAny_load (Heap.get?_push_of_some _ (Heap.get?_push_of_some _ hC)) (wpAny_pure ?_)))))
  dsimp only
  rw [e2]
  refine wpAny_pure (wpAny_pure ?_)
  show R _ _
  rw [Heap.size_push]
  exact hq
theorem make_air {tk : Tok} {fI : Addr} (nk : NewK K C) (X : K.In h) (hi : findIn K (.ref C) "__init__" = some (some (.ref fI))) (hf : typeIn K (.ref fI) = some (.type "function"))
    (hq : codeAny (model prog w) (A.under (.builtin "type.__call__" ⟨.ref C :: [.int 2 tk], []⟩)) (.call (.ref fI) ⟨.ref (h.objs.size + 1) :: [.int 2 tk], []⟩) (InitBack (h.objs.size + 1) R) ⟨(h.push emptyDict).push { cls := .ref C, dict := some h.objs.size, data := .seq #[] }, g, d, t, os⟩) :
    codeAny (model prog w) A (.call (.ref C) ⟨[.int 2 tk], []⟩) R ⟨h, g, d, t, os⟩ := by
  have made := nk.made (M := model prog w) X
  have typ := looks_instIn (M := model prog w) X nk.typ
  have call := looks_specialIn (M := model prog w) X nk.call
  have hm := nk.mro (M := model prog w) X
  have self := nk.sub (M := model prog w) X (.ref C) (by simp)
  have hil := looks_findIn (M := model prog w) X hi
  have hb := bind_fn (M := model prog w) X (.ref (h.objs.size + 1)) hf
  obtain ⟨oc, od, cd, sl, ho, e1, e2, e3, e4⟩ := nk.obj
  have hC := X _ _ ho
  refine codeAny_of_tree ?_
  show wpAny _ _ (callAny (.ref C) _) _ _ _
  refine nd_load hC ?_
  show wpAny _ _ (callAny.viaDunder (.ref C) _) _ _ _
  unfold callAny.viaDunder
  refine wpAny_bind (call.at ?_)
  dsimp only
  rw [tc_bind]
  refine wpAny_bind (wpAny_pure (wpAny_bind (wpAny_pure ?_)))
  refine wpAny_pure (a := Fin.again (.call (.builtin "type.__call__") ⟨[.ref C, .int 2 tk], []⟩)) (And.intro rfl ?_)
  refine codeAny_call_builtin_at (Code.quiet_builtin _ (by decide +kernel)) entry_typeCall (check_slot tc_kind tc_split typ (tc_args _ _ _) ?_)
  unfold Builtin.«type.__call__»
  have hmne : ([.ref C, .type "list", .type "object"] : List Value).isEmpty = false := rfl
  repeat (first | simp only [hmne, Bool.false_eq_true, if_false] | with_reducible refine wpAny_call ?_ | lk)
  refine new_list nk X ?_
  have k : ∀ b o, h.get? b = some o → ((h.push emptyDict).push { cls := .ref C, dict := some h.objs.size, data := .seq #[] }).get? b = some o := fun b o e => Heap.get?_push_of_some _ (Heap.get?_push_of_some _ e)
  have hx : ((h.push emptyDict).push { cls := .ref C, dict := some h.objs.size, data := .seq #[] }).get? (h.objs.size + 1) = some { cls := .ref C, dict := some h.objs.size, data := .seq #[] } := Heap.get?_push_at (by rw [Heap.size_push]) rfl
  have t1 : Looks (model prog w) ((h.push emptyDict).push { cls := .ref C, dict := some h.objs.size, data := .seq #[] }) (typeOf (.ref (h.objs.size + 1))) (.ref C) := (Looks.ld hx).andThen .now
  have s1 := self.keeps k
  have i1 := hil.keeps k
  have b1 := hb.keeps k
  unfold isInstance callSpecial? specialOf
  repeat (first | with_reducible refine wpAny_call ?_ | lk)
  refine codeAny_mono hq fun r s' z => ?_
  rcases r with e | (v | _ | _ | _) <;> first | exact z | exact z.elim | skip
  obtain ⟨rfl, z⟩ := z
  exact wpAny_pure (wpAny_pure z)
end
end Mine
end

section
open PySem PySem.Calls PyProof.Rows PySem.W Builtin Builtin.ObjectAttr
set_option maxRecDepth 100000
namespace Mine
section
variable {prog : Program} {w : World} {c : Cfg} {K : Frag} {A : Around} {C : Addr} {R : Result → Shared → Prop} {s : Shared}
theorem refuse_list (self : Value) (C : Addr) : refuseLoop self "__setattr__" [.ref C, .type "list", .type "object"] = pure () := by rw [refuseLoop_ref]; kernel_rfl
theorem put_first (hsh : Int) (tk t : Tok) : Obj.putName "_initial_size" hsh (.str "_initial_size" tk) (.int 2 t) emptyDict = airDict hsh tk t 1 := by kernel_rfl
theorem set_first {x dx : Addr} {tk t2 : Tok} {ox : Obj} (nk : NewK K C) (X : K.In s.heap) (hno : findIn K (.ref C) "_initial_size" = some none) (hdi : ∃ cd, clsIn K C = some cd ∧ cd.hasDict = true) (hx : s.heap.get? x = some ox) (hcl : ox.cls = .ref C) (hnc : notCls ox = true) (hod : ox.dict = some dx) (hd : s.heap.get? dx = some emptyDict)
    (h : ∀ h' hsh, Heap.SameBut dx s.heap h' → h'.get? dx = some (airDict hsh s.toks t2 1) → R (.ok (.ret .none)) { s with heap := h', toks := s.toks + 1 }) :
    codeAny (model prog w) A (.call (.builtin "object.__setattr__") ⟨[.ref x, .str "_initial_size" tk, .int 2 t2], []⟩) R s := by
  have SF := PySem.F.store_object
  have I : InstAt s.heap x ox C (some emptyDict) := ⟨hx, hcl, hnc, by rw [hod]; exact hd⟩
  have sub : Looks (model prog w) s.heap (isInstance (.ref x) (.type "object")) true := I.type.andThen (nk.sub X _ (by simp))
  refine codeAny_call_builtin SF.slot.plain SF.entry (@check_slot (model prog w) _ _ s "object.__setattr__" "object" "__setattr__" (.ref x) [.str "_initial_size" tk, .int 2 t2] [] _ SF.kind SF.split sub (SF.args (.ref x) (.str "_initial_size" tk) (.int 2 t2)) ?_)
  have hm := nk.mro (M := model prog w) X
  rw [osa_eq, refuse_eq]
  refine wpAny_bind (wpAny_bind (I.type.here (wpAny_bind (hm.here ?_))))
  rw [refuse_list]
  refine wpAny_pure (wpAny_bind (I.type.here (wpAny_bind ((looks_findIn X hno).here (wpAny_bind ?_)))))
  show wpAny _ _ (storeTaker? none) _ _ _
  refine wpAny_pure ?_
  obtain ⟨cd, hc, hd'⟩ := hdi
  obtain ⟨oc, odi, oda, osl⟩ := ox
  dsimp only at hcl hod
  subst hcl hod
  refine wpAny_bind (wpAny_pure (wpAny_bind (wpAny_bind (wpAny_loadPart hx (wpAny_bind ((looks_clsIn X hc).here ?_))))))
  rw [hd']
  refine wpAny_pure (a := some dx) (wpAny_bind (wpAny_pure (wpAny_bind ?_)))
  unfold nsSet
  refine wpAny_bind (wpAny_bind (wpAny_askSetting (wpAny_pure (wpAny_bind (wpAny_mkText (wpAny_bind (wpAny_loadPart hd ?_)))))))
  show wpAny _ _ (if aRefKeyMayBeTheName ("_initial_size" : Str) #[] = true then _ else _) _ _ _
  rw [show aRefKeyMayBeTheName ("_initial_size" : Str) #[] = false by rw [aRefKeyMayBeTheName_at]; simp, if_neg (by decide)]
  dsimp only
  refine wpAny_updatePart hd ?_
  have D' : ∀ hsh, (s.heap.update dx (Obj.putName ("_initial_size" : Str) hsh (.str ("_initial_size" : Str) s.toks) (.int 2 t2))).get? dx = some (airDict hsh s.toks t2 1) := fun hsh => by
    rw [Heap.get?_update_self _ hd (by rw [put_first]; rfl), put_first]
  refine wpAny_bind (wpAny_lookBehind (D' _) (pastItsLine_dict (by simp [sizeLine_eq])) ?_)
  exact wpAny_pure (h _ _ (Heap.SameBut.update ..) (D' _))
end
end Mine
end

section
open PySem PySem.Calls PyProof.Rows PySem.W
set_option maxRecDepth 100000
namespace Mine
section
variable {prog : Program} {w : World} {c : Cfg} {K : Frag} {sc : List (Str × NameKind)} {N : List Str} {n : Nat}
theorem k_li1 : builtinKind "list.__init__" = some .slot := by decide +kernel
theorem k_li3 : ("list.__init__" : String).cutAt '.' = ["list", "__init__"] := by decide +kernel
theorem args_li (a : Value) : argsOk "list.__init__" ⟨[a], []⟩ := by unfold argsOk; kernel_rfl
theorem entry_li : entryFor table "list.__init__" = some Builtin.«list.__init__» := entryFor_of_tree (by kernel_rfl)
theorem plain_li : plainId "list.__init__" = true := by decide +kernel
theorem init_run {A : Around} {E : Value → Shared → Prop} {s : Shared} {C a dx : Addr} {Q : Fin → Shared → Prop} (ho : s.heap.get? a = some (airObj C dx #[] 0)) (h : ∀ h', h'.get? a = some (airObj C dx #[] 0) → Heap.SameBut a s.heap h' → Q (.done (.ret .none)) { s with heap := h' }) :
    wpAny (model prog w) A (Builtin.«list.__init__» ⟨[.ref a], []⟩) Q E s := by
  unfold Builtin.«list.__init__»
  show wpAny _ _ (Builtin.List.listItems (.ref a) >>= fun old => Builtin.List.listUpdate (.ref a) (fun _ => #[]) >>= fun _ => letGo old.toList.reverse >>= fun _ => ret .none) _ _ _
  unfold Builtin.List.listItems
  refine wpAny_bind (wpAny_bind (wpAny_seqItems ho rfl (wpAny_pure (wpAny_bind ?_))))
  show wpAny _ _ (updateSeq a _) _ _ _
  refine wpAny_updateSeq ho rfl (wpAny_bind (wpAny_letGo (wpAny_pure (h _ ?_ (Heap.SameBut.update ..)))))
  rw [Heap.get?_update_self _ ho rfl]
  rfl
theorem init_ok {A : Around} {s : Shared} {f x dx : Addr} {o : Obj} {fd : FuncData} {tk : Tok} {p0 p1 p2 p3 p4 p5 apos pos rp : Pos} {pl : Env → Sem Bool} {R : Result → Shared → Prop}
    (sf : SupFn c prog f o fd [.Assign [.Attribute (.Name "self" p2) "_initial_size" p3] (.Name "initial_size" p4) p5, .Expr (.Call (.Attribute (.Call (.Name "super" p0) [] [] p1) "__init__" apos) [] [] pos) rp] ["self", "initial_size"])
    (sk : SupK c K prog) (k : AirK c K) (nk : NewK K c.C) (hsa : findIn K (.ref c.C) "__setattr__" = some (some (.builtin "object.__setattr__"))) (hmg : c.mg "super" = none) (hmb : c.mb "super" = some (.type "super"))
    (hev : ∀ env : Env, eval (.Call (.Attribute (.Call (.Name "super" p0) [] [] p1) "__init__" apos) [] [] pos) env = (do
      let ov ← attributeBase (.Call (.Name "super" p0) [] [] p1) "__init__" env (eval (.Call (.Name "super" p0) [] [] p1) env)
      standAt apos.atName
      let (f, first) ← holding [ov] (getMethod ov "__init__" (pl env))
      callWith pos f first (backTo pos (starEach [] env)) []))
    (ok : CfgOK c) (hroom : A.depth < recursionLimit) (g : Glo c s.heap) (hx : s.heap.get? x = some (airObj c.C dx #[] 0)) (hd : s.heap.get? dx = some PySem.W.emptyDict) (hnd : c.h₁.get? dx = none) (hnx : c.h₁.get? x = none) (hne : dx ≠ x)
    (h : ∀ h' tk' hsh t', (∀ b ob, b ≠ dx → b ≠ x → s.heap.get? b = some ob → h'.get? b = some ob) → h'.get? x = some (airObj c.C dx #[] 0) → h'.get? dx = some (airDict hsh t' tk 1) → R (.ok (.ret .none)) { s with heap := h', toks := tk' }) :
    codeAny (model prog w) A (.call (.ref f) ⟨[.ref x, .int 2 tk], []⟩) R s := by
  obtain ⟨c₀, oc, ovs, t0, file, tf, e1, e2, e3, e4, n1, n2, _, _⟩ := sf.code
  refine ks_codeAny_call_defAt hroom (g.keep _ _ sf.ob sf.off.1 sf.off.2) sf.data g.lim ⟨c₀, oc, ovs, t0, e1, g.keep _ _ e2 n1 n2, e3, e4⟩ sf.hbody (sf.bind s [.ref x, .int 2 tk] g rfl) sf.nocell (fun x hx => sf.pars _ (List.of_mem_zip hx).1) (fun h₀ hns hk => ?_) sf.co sf.gen sf.kind
  have hkind : (callEnv fd s.heap.objs.size f).scope.kind = .function := sf.kind
  have kof : ∀ y, (callEnv fd s.heap.objs.size f).kindOf y = fd.scope.names.lookup y := fun y => rfl
  refine ks_wpAt_execs_cons (ks_wpAt_Assign_Attr (wpAt_of_wpAny ?_) rfl)
  refine wpAny_Name (wpAny_loadName_local hkind ((kof _).trans (sf.pars "initial_size" (by simp))) hns (v := .int 2 tk) rfl ?_) (by decide +kernel)
  refine wpAny_Name (wpAny_loadName_local hkind ((kof _).trans (sf.pars "self" (by simp))) hns (v := .ref x) rfl ?_) (by decide +kernel)
  have g₀ := g.keeps hk
  have I : InstAt h₀ x (airObj c.C dx #[] 0) c.C (some PySem.W.emptyDict) := ⟨hk _ _ hx, rfl, rfl, hk _ _ hd⟩
  refine set_plain (k.at g₀) I hsa (set_first nk (k.at g₀) k.nof k.own (hk _ _ hx) rfl rfl rfl (hk _ _ hd) fun h₂ hsh hs₂ hd₂ => ?_)
  have k₂ : ∀ b ob, b ≠ dx → s.heap.get? b = some ob → h₂.get? b = some ob := fun b ob ne e => (hs₂.2 b ne).trans (hk b ob e)
  have hLd : s.heap.objs.size ≠ dx := fun q => Nat.lt_irrefl _ (q ▸ Heap.lt_size hd)
  have hx₂ := k₂ _ _ (Ne.symm hne) hx
  have g₂ : Glo c h₂ := g₀.same ok hnd hs₂
  have hns₂ : h₂.Ns s.heap.objs.size _ := hns.sameBut hs₂ hLd
  refine ks_wpAt_execs_cons (ks_wpAt_Expr_any ?_ (by show (fd.scope.kind == .module && _) = false; rw [sf.kind]; rfl) rfl)
  refine sup_eval (a := x) sf sk k g₂ hmg hmb sk.init type_list_init k_li3 (by decide +kernel) plain_li entry_li k_li1 args_li hx₂ hd₂ hns₂ (fun y hy => by cases hy; rfl) hev fun h₃ tk₃ k₃ => ?_
  refine init_run (k₃ _ _ hx₂) fun h₄ hx₄ hs₄ => ⟨_, rfl, ?_⟩
  refine wpAt_of_wpAny (wpAny_execs_nil ?_)
  refine h h₄ tk₃ hsh _ (fun b ob n1 n2 e => (hs₄.2 b n2).trans (k₃ _ _ (k₂ b ob n1 e))) hx₄ ((hs₄.2 dx hne).trans (k₃ _ _ hd₂))
end
end Mine
end

section
open PySem PySem.Calls PyProof.Rows PySem.W
set_option maxRecDepth 100000
namespace Mine
section
variable {prog : Program} {w : World} {c : Cfg} {K : Frag} {sc : List (Str × NameKind)} {N : List Str} {n : Nat}
noncomputable def isTwo : DV → Bool
  | .int i => i == 2
  | _ => false
noncomputable def gNew (f : List DV → Option DV) : List DV → Air → Option (DV × Air) := fun ρ α => (f ρ).bind fun d => if isTwo d then (match α with | none => some (.air, some []) | some _ => none) else none
theorem ge_new {x : Str} {np pos : Pos} {e : Expr} {fI : Addr} {o : Obj} {fd : FuncData} {p0 p1 p2 p3 p4 p5 apos ipos rp : Pos} {pl : Env → Sem Bool} {f : List DV → Option DV} (ok : CfgOK c)
    (sf : SupFn c prog fI o fd [.Assign [.Attribute (.Name "self" p2) "_initial_size" p3] (.Name "initial_size" p4) p5, .Expr (.Call (.Attribute (.Call (.Name "super" p0) [] [] p1) "__init__" apos) [] [] ipos) rp] ["self", "initial_size"])
    (sk : SupK c K prog) (k : AirK c K) (nk : NewK K c.C) (hsa : findIn K (.ref c.C) "__setattr__" = some (some (.builtin "object.__setattr__"))) (hmg : c.mg "super" = none) (hmb : c.mb "super" = some (.type "super"))
    (hev : ∀ env : Env, eval (.Call (.Attribute (.Call (.Name "super" p0) [] [] p1) "__init__" apos) [] [] ipos) env = (do
      let ov ← attributeBase (.Call (.Name "super" p0) [] [] p1) "__init__" env (eval (.Call (.Name "super" p0) [] [] p1) env)
      standAt apos.atName
      let (f, first) ← holding [ov] (getMethod ov "__init__" (pl env))
      callWith ipos f first (backTo ipos (starEach [] env)) []))
    (hi : findIn K (.ref c.C) "__init__" = some (some (.ref fI))) (hty : typeIn K (.ref fI) = some (.type "function")) (hkeep : keepIn K (.ref c.C) = true)
    (hk : sc.lookup x = some .globalImplicit) (hv : c.mg x = some (.ref c.C)) (hf : SE prog w c sc N e f) (hd : (x == ("__debug__" : Str)) = false := by decide +kernel) (hst : ∀ env, starEach [e] env = (false, eval e env) :: starEach [] env := by intro _; rfl) (hplain : ∀ env pos, (backTo pos (starEach [] env)).any (·.1) = false := by intro _ _; rfl) :
    GE prog w c sc N (n + 2) (.Call (.Name x np) [e] [] pos) (gNew f) := by
  intro A env s X aA α ρ m cm d α' he hA g of hn hF Q E h
  obtain ⟨d₀, hd₀, hF⟩ := obind hF
  split at hF
  · rename_i h2
    cases α with
    | some _ => cases hF
    | none =>
      cases hF
      refine wpAny_Call_NameR (load_global he g.inv.glo hk hv hd (callWith_K (k.at g.inv.glo) hkeep (wpAny_items_cons ?_ (hst _)) (hst _) (hplain _ _)))
      refine hf A env s X aA ρ m cm d₀ he hA.rm g.inv.glo g.xb hn hd₀ _ _ fun v h₁ tk₁ r₁ k₁ => wpAny_items_nil ?_
      have g₁ := g.pure (tk := tk₁) k₁
      refine ⟨k.at g₁.inv.glo, ?_⟩
      unfold isTwo at h2
      split at h2
      · rename_i i
        cases r₁ with
        | int _ tk =>
          have hi2 : i = 2 := by simpa using h2
          subst hi2
          have haA : aA = none := by
            have := g.air
            unfold AirOK at this
            cases aA with
            | none => rfl
            | some _ => cases this
          subst haA
          have hsz : ∀ {b ob}, h₁.get? b = some ob → b < h₁.objs.size := fun e => Heap.lt_size e
          have fresh : ∀ b, h₁.objs.size ≤ b → h₁.get? b = none := fun b hb => by
            cases q : h₁.get? b with
            | none => rfl
            | some ob => exact absurd (hsz q) (Nat.not_lt.mpr hb)
          have hx : ((h₁.push PySem.W.emptyDict).push { cls := .ref c.C, dict := some h₁.objs.size, data := .seq #[] }).get? (h₁.objs.size + 1) = some (airObj c.C h₁.objs.size #[] 0) := Heap.get?_push_at (by rw [Heap.size_push]) rfl
          have hdx : ((h₁.push PySem.W.emptyDict).push { cls := .ref c.C, dict := some h₁.objs.size, data := .seq #[] }).get? h₁.objs.size = some PySem.W.emptyDict := Heap.get?_push_of_some _ (Heap.get?_push_size _ rfl)
          have kp : ∀ b ob, h₁.get? b = some ob → ((h₁.push PySem.W.emptyDict).push { cls := .ref c.C, dict := some h₁.objs.size, data := .seq #[] }).get? b = some ob := fun b ob e => Heap.get?_push_of_some _ (Heap.get?_push_of_some _ e)
          have g₂ : Glo c ((h₁.push PySem.W.emptyDict).push { cls := .ref c.C, dict := some h₁.objs.size, data := .seq #[] }) := g₁.inv.glo.keeps kp
          have n1 : c.h₁.get? h₁.objs.size = none := Glo.alive (s := { s with heap := h₁, toks := tk₁ }) g₁.inv.glo g₁.mx g₁.xb (fresh _ (Nat.le_refl _))
          have n2 : c.h₁.get? (h₁.objs.size + 1) = none := Glo.alive (s := { s with heap := h₁, toks := tk₁ }) g₁.inv.glo g₁.mx g₁.xb (fresh _ (Nat.le_succ _))
          refine wpAny_call (make_air nk (k.at g₁.inv.glo) hi hty ?_)
          refine init_ok (s := { s with heap := _, toks := tk₁ }) (dx := h₁.objs.size) sf sk k nk hsa hmg hmb hev ok ?_ g₂ hx hdx n1 n2 (Nat.ne_of_lt (Nat.lt_succ_self _)) fun h₃ tk₃ hsh t' k₃ hx₃ hd₃ => ⟨rfl, ?_⟩
          · have := hA.depth
            show A.depth + 1 < recursionLimit
            lia
          · let X' : Addr → Prop := fun b => X b ∨ b = h₁.objs.size + 1
            have kk : ∀ b ob, h₁.get? b = some ob → h₃.get? b = some ob := fun b ob e => k₃ b ob (Nat.ne_of_lt (hsz e)) (Nat.ne_of_lt (Nat.lt_succ_of_lt (hsz e))) (kp b ob e)
            have ks : ∀ b ob, s.heap.get? b = some ob → h₃.get? b = some ob := fun b ob e => kk b ob (k₁ b ob e)
            have snone : s.heap.get? (h₁.objs.size + 1) = none := by
              cases q : s.heap.get? (h₁.objs.size + 1) with
              | none => rfl
              | some ob => have := k₁ _ _ q; rw [fresh _ (Nat.le_succ _)] at this; cases this
            have g₃ : GI c { s with heap := h₃, toks := tk₃ } X' (some (h₁.objs.size + 1)) (some []) := by
              refine ⟨g.inv.keeps ks, fun b hb => ?_, ⟨.inr rfl, h₁.objs.size, [], 0, hsh, t', tk, 1, n2, hx₃, fun q => ?_, Nat.ne_of_lt (Nat.lt_succ_self _), hd₃, by simp, .nil⟩, fun b hb => ?_⟩
              · rcases hb with hb | rfl
                · obtain ⟨ob, e⟩ := g.xb b hb; exact ⟨ob, ks b ob e⟩
                · exact ⟨_, hx₃⟩
              · rcases q with q | q
                · obtain ⟨ob, e⟩ := g₁.xb _ q
                  have e' : h₁.get? h₁.objs.size = some ob := e
                  rw [fresh _ (Nat.le_refl _)] at e'; cases e'
                · exact absurd q (Nat.ne_of_lt (Nat.lt_succ_self _))
              · rcases hb with hb | hb | hb
                · exact .inl (g.mx b (.inl hb))
                · exact .inl (g.mx b (.inr (.inl hb)))
                · cases hb; exact .inr rfl
            exact h _ { s with heap := h₃, toks := tk₃ } (some (h₁.objs.size + 1)) X' (.air rfl) ⟨fun b ob e _ => ks b ob e, fun b ob e => ⟨ob, ks b ob e⟩, fun b hb => .inl hb, fun b ob e hb => hb.elim id fun q => (by rw [q, snone] at e; cases e), .inr ⟨rfl, _, rfl, snone⟩⟩ g₃
      · cases h2
  · cases hF
end
end Mine
end

section
open PySem PySem.Calls PyProof.Rows PySem.W
set_option maxRecDepth 100000
namespace Mine
section
variable {prog : Program} {w : World} {c : Cfg} {K : Frag} {sc : List (Str × NameKind)} {N : List Str} {n : Nat}
noncomputable def gNe (f : List DV → Option DV) : List DV → Option Bool := fun ρ => (f ρ).bind fun d => match d with
  | .lst ds => (asInts ds).map fun ns => !decide (ns = [])
  | _ => none
theorem gt_ne {l : Expr} {p pos : Pos} {f : List DV → Option DV} (hf : SE prog w c sc N l f) (hm : behindInMarks .NotEq (.List [] p) = false := by with_unfolding_all rfl) : GT prog w c sc N (n + 3) (.Compare l [.NotEq] [.List [] p] pos) (gPT (gNe f)) := by
  intro A env s X aA α ρ m cm b α' he hA g of hn hd Q E h
  obtain ⟨b', hb, e⟩ := omap hd
  cases e
  clear hd
  obtain ⟨d, hd₀, hd1⟩ := obind hb
  split at hd1
  · obtain ⟨ns, hns, rfl⟩ := omap hd1
    refine wpAny_isTrue_Compare1 (hf A env s X aA ρ m cm _ he hA.rm g.inv.glo g.xb hn hd₀ _ _ fun v h₁ tk₁ r₁ k₁ => ?_) hm
    have kl : ∀ b o, h₁.get? b = some o → (h₁.push { cls := .type "list", data := .seq ([] : List Value).toArray }).get? b = some o := fun _ _ e => Heap.get?_push_of_some _ e
    refine wpAny_List (wpAny_items_nil ⟨by simp, ?_⟩)
    cases r₁ using Rel.lstC with
    | lst nx pl hz rl =>
      have hu := hA.units
      refine ne_intsK (ms := []) (us := []) (pl.at fun o e => kl _ o e).isList ((rl.keeps kl).areInts hns) ⟨_, Heap.get?_push_size _ rfl, rfl, 0, rfl⟩ .nil (by lia) ?_
      exact wpAny_truthy_bool (h _ aA X ((GStep.pure k₁).trans (GStep.pure kl)) ((g.pure (tk := tk₁) k₁).pure (tk := tk₁) kl))
  · cases hd1
theorem call_next {A : Around} {E : Value → Shared → Prop} {s : Shared} {it l : Addr} {i : Nat} {items : Array Value} {x : Value} {Q : Value → Shared → Prop} (hit : s.heap.IsListIter it l i) (hl : SeqAt s.heap l items) (hx : items[i]? = some x)
    (hQ : ∀ h', h'.IsListIter it l (i + 1) → Heap.SameBut it s.heap h' → Q x { s with heap := h' }) : wpAny (model prog w) A (call (.builtin "next") [.ref it]) Q E s := by
  refine call_function_entry (by decide +kernel) (by decide +kernel) kdk_entry_next (kdk_args_next _) ?_
  unfold Builtin.«next»
  refine wpAny_bind (m := someArgs "next" 1 2 _) (wpAny_of_eq (a := [Value.ref it]) (by first | rfl | kernel_rfl) ?_)
  dsimp only
  refine wpAny_bind (wpAny_specialOf (name := Str.ofString "__next__") hit.typeIs slot_listiter_next.lookup ?_)
  rw [if_neg (by decide)]
  refine wpAny_bind (wpAny_callSpecial?_slot (name := Str.ofString "__next__") hit.typeIs slot_listiter_next (step_item hit hl hx fun h' a b => ?_))
  exact wpAny_pure ⟨_, rfl, hQ h' a b⟩
theorem call_iter {A : Around} {E : Value → Shared → Prop} {s : Shared} {l : Addr} {items : Array Value} {Q : Value → Shared → Prop} (hl : s.heap.IsList l items)
    (hQ : Q (.ref s.heap.objs.size) { s with heap := s.heap.push { cls := .type "list_iterator", data := .fields #[.ref l, .int 0 0] } }) : wpAny (model prog w) A (call (.builtin "iter") [.ref l]) Q E s := by
  refine call_function_entry (by decide +kernel) (by decide +kernel) kdk_entry_iter (kdk_args_iter _) ?_
  unfold Builtin.«iter»
  refine wpAny_bind (m := someArgs "iter" 1 2 _) (wpAny_of_eq (a := [Value.ref l]) (by first | rfl | kernel_rfl) ?_)
  show wpAny _ _ (pyIter (.ref l) >>= _) _ _ _
  exact wpAny_bind (wpAny_pyIter_list hl (wpAny_pure ⟨_, rfl, hQ⟩))
end
end Mine
end

section
open PySem PySem.Calls PyProof.Rows PySem.W
set_option maxRecDepth 100000
namespace Mine
section
variable {prog : Program} {w : World} {c : Cfg} {env : Env} {sc : List (Str × NameKind)} {N : List Str} {n : Nat} {s : Shared} {X : Addr → Prop} {aA o : Option Addr} {ρ : List DV}
theorem FI.stepped {k : Nat} {d : DV} {r : List DV} {air : Air} {I : Addr} (ok : CfgOK c) (fi : FI c env N s ⟨ρ, some (k, .it (d :: r)), air⟩ (some I) aA X) :
    ∃ (m cm : Str → Option Value) (y : Str) (l : Addr) (j : Nat) (vs : List Value) (v : Value), Nm env N s.heap X aA ρ m cm ∧ N[k]? = some y ∧ valOf env m cm y = some (.ref I) ∧ s.heap.IsListIter I l j ∧ SeqAt s.heap l vs.toArray ∧ vs[j]? = some v ∧ Rel s.heap X aA v d ∧
      ∀ h' tk, h'.IsListIter I l (j + 1) → Heap.SameBut I s.heap h' → SStep c env (some I) aA X s.heap (some I) aA X h' ∧ FI c env N { s with heap := h', toks := tk } ⟨ρ, some (k, .it r), air⟩ (some I) aA X := by
  obtain ⟨m, cm, nm, y, l, j, vs, h1, h2, h3, h4, ⟨z, h5⟩, h6, h7⟩ := fi.nm
  have hdrop : ∃ v rest, vs.drop j = v :: rest ∧ Rel s.heap X aA v d ∧ RelL s.heap X aA rest r := by
    generalize vs.drop j = q at h7
    cases h7 using RelL.consC with
    | cons a b => exact ⟨_, _, rfl, a, b⟩
  obtain ⟨v, rest, e, rv, rr⟩ := hdrop
  have hj : vs[j]? = some v := by
    have := congrArg (·[0]?) e
    simpa using this
  have hrest : vs.drop (j + 1) = rest := by
    have := congrArg (List.drop 1) e
    simpa [List.drop_drop, Nat.add_comm] using this
  refine ⟨m, cm, y, l, j, vs, v, nm, h1, h2, h3, ⟨_, h5, _, rfl⟩, hj, rv, fun h' tk hit hs => ?_⟩
  obtain ⟨q1, q2, q3⟩ := fi.fr.mu I (.inr (.inr rfl))
  have alive : ∃ ob, h'.get? I = some ob := let ⟨ob, e, _⟩ := hit; ⟨ob, e⟩
  have g := fi.gi.same (tk := tk) ok q3 q2 q1 hs alive
  have hk : ∀ b o, s.heap.get? b = some o → ¬ X b → h'.get? b = some o := fun b o e nx => (hs.2 b fun q => nx (q ▸ q2)).trans e
  have off := fi.fr.offO I rfl
  refine ⟨⟨fun b ob e _ hf => (hs.2 b fun q => hf (.inr (.inr (q ▸ rfl)))).trans e, fun b ob e => ?_, fun _ _ _ e => .inl e, fun _ _ _ e => e, .inl rfl, fun _ e => .inl e⟩, g.inv, g.xb, g.air, fi.fr, m, cm, ⟨nm.ns.sameBut hs (Ne.symm off.1), fun x b e => (nm.cell x b e).sameBut hs fun q => off.2 x (q ▸ e), fun i d hi ne => ?_⟩, y, l, j + 1, vs, h1, h2, hit, h4, ⟨z, hk _ _ h5 h4⟩, h6, hrest ▸ rr.mono hk (fun _ _ _ n => n) fun _ e => e⟩
  · by_cases q : b = I
    · exact q ▸ alive
    · exact ⟨ob, (hs.2 b q).trans e⟩
  · obtain ⟨x, u, hx, hu, q⟩ := nm.val i d hi ne
    exact ⟨x, u, hx, hu, q.mono hk (fun _ _ _ n => n) fun _ e => e⟩
noncomputable def kNext (i k : Nat) : SF := fun σ => match σ.own with
  | some (k', .it (d :: r)) => if k' == k && i != k then some (.next, { ρ := σ.ρ.set i d, own := some (k', .it r), air := σ.air }) else none
  | _ => none
theorem sx_next {x y nx : Str} {px np yp cp pos : Pos} {i k : Nat} (ok : CfgOK c) (hN : N.Nodup) (hi : N[i]? = some x) (hk : sc.lookup x = some .local ∨ sc.lookup x = some .cell) (hy : N[k]? = some y)
    (hn : sc.lookup nx = some .globalImplicit) (hmg : c.mg nx = none) (hmb : c.mb nx = some (.builtin "next")) (hd1 : (y == ("__classdict__" : Str)) = false := by decide +kernel) (hd2 : (y == ("__debug__" : Str)) = false := by decide +kernel) (hd : (nx == ("__debug__" : Str)) = false := by decide +kernel) :
    SX prog w c sc N n (.Assign [.Name x px] (.Call (.Name nx np) [.Name y yp] [] cp) pos) (kNext i k) := by
  intro A env s σ o aA X fl σ' he hA fi hF Q E h
  obtain ⟨ρ, own, air⟩ := σ
  unfold kNext at hF
  split at hF
  · rename_i k' d r e
    dsimp only at e
    subst e
    split at hF
    · rename_i hc
      rw [Bool.and_eq_true] at hc
      have hkk : k' = k := by simpa using hc.1
      have hik : i ≠ k := by simpa using hc.2
      subst hkk
      cases hF
      obtain ⟨m₀, cm₀, _, q₀⟩ := fi.nm
      cases o with
      | none => exact False.elim q₀
      | some I =>
        obtain ⟨m, cm, y', l, j, vs, v, nm, h1, h2, h3, h4, h5, rv, hst⟩ := fi.stepped ok
        rw [hy] at h1
        cases h1
        refine wpAny_Assign_Name (wpAny_Call_NameR (load_builtin he fi.inv.glo hn hmg hmb hd (PyProof.Rows.callWith_builtin1 (wpAny_items_cons (own_name he nm h2 hd1 hd2 ?_) rfl) rfl rfl))) rfl
        refine wpAny_items_nil (call_next h3 h4 (by simpa using h5) fun h' hit hs => ?_)
        obtain ⟨st, fi'⟩ := hst h' s.toks hit hs
        exact store_ok ok he fi' hN hi hk (fun k z e => by cases e; exact Ne.symm hik) (st.rel fi.fr rv) fun s₃ st₃ fi₃ => h _ _ _ _ _ .next (st.trans st₃) fi₃
    · cases hF
  · cases hF
end
end Mine
end

section
open PySem PySem.Calls PyProof.Rows PySem.W
set_option maxRecDepth 100000
namespace Mine
section
variable {prog : Program} {w : World} {c : Cfg} {sc : List (Str × NameKind)} {N N' : List Str} {n : Nat}
noncomputable def gIt (j : Nat) (G : SF) (f : List DV → Option DV) : List DV → Air → Option (DV × Air) := fun ρ α => (f ρ).bind fun d => match d with
  | .lst ds => (G ⟨.undef :: List.replicate j .undef, some (0, .it ds), α⟩).bind fun p => match p.1 with
    | .ret d => some (d, p.2.air)
    | .next => some (.none, p.2.air)
    | .brk => none
  | _ => none
theorem ge_callIt {x ix : Str} {np ip cp pos : Pos} {e : Expr} {fa : Addr} {o : Obj} {fd : FuncData} {body : List Stmt} {scope : Scope} {y : Str} {ys : List Str} {G : SF} {f : List DV → Option DV} (fn : FnAt c fa o fd body scope [y] 1 [] []) (hN : N' = y :: ys) (hb : SS prog w c scope.names N' n body G)
    (hk : sc.lookup x = some .globalImplicit) (hv : c.mg x = some (.ref fa)) (hik : sc.lookup ix = some .globalImplicit) (himg : c.mg ix = none) (himb : c.mb ix = some (.builtin "iter")) (hf : SE prog w c sc N e f)
    (hd : (x == ("__debug__" : Str)) = false := by decide +kernel) (hd' : (ix == ("__debug__" : Str)) = false := by decide +kernel) (hst : ∀ env, starEach [e] env = (false, eval e env) :: starEach [] env := by intro _; rfl) (hpl : ∀ env pos, (backTo pos (starEach [] env)).any (·.1) = false := by intro _ _; rfl) :
    GE prog w c sc N (n + 1) (.Call (.Name x np) [.Call (.Name ix ip) [e] [] cp] [] pos) (gIt ys.length G f) := by
  intro A env₀ s X aA α ρ m cm d α' he₀ hA g of hn hF Q E h
  obtain ⟨d₀, hd₀, hF⟩ := obind hF
  split at hF
  · rename_i ds
    obtain ⟨⟨fl, σ'⟩, hG, hF⟩ := obind hF
    refine wpAny_Call_NameR (load_global he₀ g.inv.glo hk hv hd (PyProof.Rows.callWith_def fn.data (wpAny_items_cons ?_ rfl) rfl))
    refine wpAny_Call_NameR (load_builtin he₀ g.inv.glo hik himg himb hd' (PyProof.Rows.callWith_builtin1 (wpAny_items_cons ?_ (hst _)) (hst _) (hpl _ _)))
    refine hf A env₀ s X aA ρ m cm _ he₀ hA.rm g.inv.glo g.xb hn hd₀ _ _ fun v h₁ tk₁ r₁ k₁ => wpAny_items_nil ?_
    have g₁ := g.pure (tk := tk₁) k₁
    cases r₁ with
    | @lst l vs _ nx pl hz rl =>
      refine call_iter pl.isList ?_
      have kI : ∀ b o, h₁.get? b = some o → (h₁.push { cls := .type "list_iterator", data := .fields #[.ref l, .int 0 0] }).get? b = some o := fun b o e => Heap.get?_push_of_some _ e
      have g₂ := g₁.pure (tk := tk₁) kI
      have hI : h₁.get? h₁.objs.size = none := by
        cases q : h₁.get? h₁.objs.size with
        | none => rfl
        | some ob => exact absurd (Heap.lt_size q) (Nat.lt_irrefl _)
      have hIt : (h₁.push { cls := .type "list_iterator", data := .fields #[.ref l, .int 0 0] }).IsListIter h₁.objs.size l 0 := ⟨_, Heap.get?_push_size _ rfl, rfl, rfl⟩
      generalize hh₂ : h₁.push { cls := .type "list_iterator", data := .fields #[.ref l, .int 0 0] } = h₂ at *
      refine wpAny_items_nil ⟨g₂.inv.glo.keep _ _ fn.ob fn.off.1 fn.off.2, ?_⟩
      have hszI : h₁.objs.size < h₂.objs.size := let ⟨_, e, _⟩ := hIt; Heap.lt_size e
      obtain ⟨c₀, oc, ovs, t, hcd, ho, hod, ht, n1, n2⟩ := fn.code
      have hcr : h₂.CodeRec fd.code fd.qualname := ⟨c₀, oc, ovs, t, hcd, g₂.inv.glo.keep _ _ ho n1 n2, hod, ht⟩
      have par : scope.names.lookup y = some .local ∨ scope.names.lookup y = some .cell := by
        have := List.all_eq_true.mp fn.pars y (by simp)
        simpa using this
      have hroom : A.depth < recursionLimit := by have := hA.depth; lia
      have hbind := fn.bind { s with heap := h₂, toks := tk₁ } [.ref h₁.objs.size] g₂.inv.glo rfl
      refine wpAny_call (call_gen (s := { s with heap := h₂, toks := tk₁ }) (body := body) hroom (g₂.inv.glo.keep _ _ fn.ob fn.off.1 fn.off.2) fn.data g₂.inv.glo.lim hcr fn.hbody hbind fn.closure (fun p hp => ?_) (fun s₁ C₀ => ?_) (fn.hscope ▸ fn.co) (fn.hscope ▸ fn.gen) (fn.hscope ▸ fn.kind))
      · rw [fn.hscope]
        have hp1 : p.1 = y := by simpa using (List.of_mem_zip hp).1
        rw [hp1]
        rcases par with q | q
        · exact .inl q
        · exact .inr ⟨q, cells_some _ _ _ _ (.inl q)⟩
      · obtain ⟨h₃, tk, rfl, _⟩ := C₀.done
        have F : Fr h₂ (callEnvC fd h₂.objs.size fa).locals h₃ (bindL (callEnvC fd h₂.objs.size fa).kindOf ([y].zip [.ref h₁.objs.size]) fun _ => none) := ⟨C₀.toInCall.ns, C₀.toInCall.keep, C₀.toInCall.fresh⟩
        have C : Cl (callEnvC fd h₂.objs.size fa).locals (callEnvC fd h₂.objs.size fa).cells h₃ (bindC (callEnvC fd h₂.objs.size fa).kindOf ([y].zip [.ref h₁.objs.size]) fun _ => none) := ⟨C₀.cell, C₀.apart, C₀.above⟩
        clear C₀
        generalize henv : callEnvC fd h₂.objs.size fa = env at *
        have hcells : cellsFrom (h₂.objs.size + 1) scope.names [] = env.cells := by rw [← henv, ← fn.hscope]; rfl
        have hL : env.locals = h₂.objs.size := by rw [← henv]; rfl
        have he : EnvOk env scope.names := by
          subst henv
          refine ⟨(show fd.scope.kind = .function by rw [fn.hscope]; exact fn.kind), fn.globals, (show fd.scope.names = scope.names by rw [fn.hscope]), fn.builtins, fun x hx => ?_⟩
          rcases hx with hx | hx
          · rw [← hcells]; exact cells_some _ _ _ _ (.inl hx)
          · have := List.all_eq_true.mp fn.nofree _ (mem_of_lookup hx)
            simp at this
        have Fresh : ∀ b, Frm env none b → h₂.objs.size ≤ b := fun b hb => by
          rcases hb with rfl | ⟨x, hb⟩ | hb
          · exact Nat.le_of_eq hL.symm
          · exact hL ▸ Nat.le_of_lt (C.above x b (mem_of_lookup hb))
          · cases hb
        let X₁ : Addr → Prop := fun b => X b ∨ Frm env (some h₁.objs.size) b
        have split : ∀ b, Frm env (some h₁.objs.size) b → Frm env none b ∨ b = h₁.objs.size := fun b hb => by
          rcases hb with q | q | q
          · exact .inl (.inl q)
          · exact .inl (.inr (.inl q))
          · exact .inr (Option.some.inj q).symm
        have fresh : ∀ b, Frm env (some h₁.objs.size) b → h₁.get? b = none := fun b hb => by
          rcases split b hb with q | rfl
          · cases z : h₁.get? b with
            | none => rfl
            | some ob => exact absurd (Heap.lt_size (kI b ob z)) (Nat.not_lt.mpr (Fresh b q))
          · exact hI
        have nX : ∀ b, Frm env (some h₁.objs.size) b → ¬ X b := fun b hb q => by
          obtain ⟨ob, e⟩ := g₁.xb b q
          have e' : h₁.get? b = some ob := e
          rw [fresh b hb] at e'; cases e'
        have k₃ : ∀ b ob, h₁.get? b = some ob → h₃.get? b = some ob := fun b ob e => F.keep b ob (kI b ob e)
        have alive : ∀ b, Frm env (some h₁.objs.size) b → ∃ ob, h₃.get? b = some ob := fun b hb => by
          rcases hb with rfl | ⟨x, hb⟩ | hb
          · obtain ⟨ob, _, _, e, _⟩ := F.ns; exact ⟨ob, e⟩
          · obtain ⟨ob, e, _⟩ := C.cell x b hb; exact ⟨ob, e⟩
          · cases hb
            obtain ⟨ob, e, _⟩ := hIt
            exact ⟨ob, F.keep _ _ e⟩
        have ne : ∀ {b ob}, h₁.get? b = some ob → ¬ Frm env (some h₁.objs.size) b := fun e q => by rw [fresh _ q] at e; cases e
        have hIL : h₁.objs.size ≠ env.locals := fun q => by rw [hL] at q; exact Nat.lt_irrefl _ (q ▸ hszI)
        have hIc : ∀ x, env.cells.lookup x ≠ some h₁.objs.size := fun x q => by
          have := Fresh _ (.inr (.inl ⟨x, q⟩))
          lia
        have fi : FI c env N' { s with heap := h₃, toks := tk } ⟨.undef :: List.replicate ys.length .undef, some (0, .it ds), α⟩ (some h₁.objs.size) aA X₁ := by
          refine ⟨(g₁.inv.keeps (tk := tk) k₃), fun b hb => ?_, g₁.air.mono (fun b ob e _ => k₃ b ob e) (fun _ _ ob e => k₃ _ ob e) (fun b ob e nx q => q.elim nx (ne e)) fun _ _ q => .inl q,
            ⟨fun b hb => ⟨fun q => nX b hb (g.mx b q), .inr hb, Glo.alive (s := { s with heap := h₁, toks := tk₁ }) g₁.inv.glo g₁.mx g₁.xb (fresh b hb)⟩, fun b q => .inl (g.mx b q), fun x y b h1 h2 => name_of_addr C.apart (mem_of_lookup h1) (mem_of_lookup h2), fun x b e q => ?_, fun b e => by cases e; exact ⟨hIL, hIc⟩⟩,
            _, _, ⟨F.ns, C.cell, fun i d hi hne => ?_⟩, y, l, 0, vs, by rw [hN]; rfl, ?_, ⟨_, F.keep _ _ hIt.choose_spec.1, hIt.choose_spec.2⟩, ?_, pl.at fun o e => k₃ _ o e, hz, ?_⟩
          · rcases hb with hb | hb
            · obtain ⟨ob, e⟩ := g₁.xb b hb; exact ⟨ob, k₃ b ob e⟩
            · exact alive b hb
          · exact Nat.lt_irrefl _ (q ▸ C.above x b (mem_of_lookup e))
          · have : ∀ (j : Nat) (d : DV), ((.undef :: List.replicate ys.length .undef) : List DV)[j]? = some d → d = .undef := fun j d hj => by
              cases j with
              | zero => simpa using hj.symm
              | succ j =>
                rw [List.getElem?_cons_succ, List.getElem?_replicate] at hj
                split at hj <;> cases hj
                rfl
            exact absurd (this i d hi) hne
          · obtain ⟨b1, b2⟩ := bind_val (kindOf := env.kindOf) [y] [.ref h₁.objs.size] (fun _ => none) (fun _ => none) 0 y (.ref h₁.objs.size) (by simp) rfl rfl
            unfold valOf
            rcases par with q | q
            · have q' : env.kindOf y = some .local := (he.kindOf y).trans q
              rw [q']; exact b1 q'
            · have q' : env.kindOf y = some .cell := (he.kindOf y).trans q
              have q'' : env.kindOf y ≠ some .local := by rw [q']; decide
              rw [q']
              show (if (env.cells.lookup y).isSome = true then _ else none) = some _
              rw [if_pos (he.cells y (.inl q))]; exact b2 q''
          · rintro (q | q)
            · exact nx q
            · obtain ⟨z, e⟩ := pl
              exact ne e q
          · exact rl.mono (fun b ob e _ => k₃ b ob e) (fun b ob e nx q => q.elim nx (ne e)) fun _ e => e
        have hA' : RmN (A.deeper env) n := ⟨hA.handled, by have := hA.depth; show A.depth + 1 + n < recursionLimit; lia, by have := hA.units; show A.units + 3 + 40 + 8 * n < cLine; lia⟩
        refine hb (A.deeper env) env _ _ (some h₁.objs.size) aA X₁ fl σ' he hA' fi hG _ _ fun fw s' o' aA' X' rf st fi' => ?_
        have ks : ∀ b ob, s.heap.get? b = some ob → h₁.get? b = some ob := k₁
        have gs : GStep c aA X s.heap aA' X' s'.heap := by
          refine ⟨fun b ob e hm => st.keep b ob (k₃ b ob (ks b ob e)) hm (ne (ks b ob e)), fun b ob e => st.there b ob (k₃ b ob (ks b ob e)), fun b hb => ?_, fun b ob e q => ?_, ?_⟩
          · obtain ⟨ob, e⟩ := g.xb b hb
            rcases st.sub b ob (k₃ b ob (ks b ob e)) (.inl hb) with q | q
            · exact q
            · cases q; have e' := ks _ _ e; rw [hI] at e'; cases e'
          · exact (st.new b ob (k₃ b ob (ks b ob e)) q).elim id fun q => absurd q (ne (ks b ob e))
          · rcases st.air with q | ⟨q, a, e, q'⟩
            · exact .inl q
            · refine .inr ⟨q, a, e, ?_⟩
              cases z : s.heap.get? a with
              | none => rfl
              | some ob => have := k₃ a ob (ks a ob z); rw [show h₃.get? a = none from q'] at this; cases this
        cases rf with
        | next => cases hF; exact h _ s' aA' X' .none gs fi'.gi
        | brk => cases hF
        | ret rv => cases hF; exact h _ s' aA' X' rv gs fi'.gi
  · cases hF
end
end Mine
end

section
open PySem PySem.W PyProof.Rows
namespace Mine
noncomputable abbrev p0 : Program := PySem.Challenge.pw_ty0020_01
noncomputable def q0 : Program := { p0 with main := { p0.main with body := p0.main.body.drop 25 } }
noncomputable def l0 : List Str := ["_wall", "EMPTYSTRING", "_Accumulator", "COMPILER_FLAG_NAMES", "pretty_flags", "_parse_varint", "_MAX_STRING_SIZE", "_MOVE_COST", "_CASE_COST", "_substitution_cost", "_levenshtein_distance", "_law_draws", "_law_state", "_law_told", "_law_air", "_law_row", "_law_letters", "_law_beat", "_law_ways", "_law_product", "_law_holds"].map Str.ofString
noncomputable abbrev r0 : RowW := (OpenLaw.row PySem.Challenge.rw_ty0020_01).toRowW
noncomputable abbrev xt0 (s : Shared) : Bool := xlAt q0 [] s && recOk (RowW.records r0) s
noncomputable def sh0 (w : World) (os : OsState) : Shared := ⟨boot_heap w.params, Array.mk [], boot_drawn, boot_toks, os⟩
theorem opening0 : opening p0 = plainProg p0.main.scope.names := by kernel_rfl
theorem fence0 (s : Shared) : fenceModules? p0 s = some s := by kernel_rfl
noncomputable def run0 (w : World) (os : OsState) : Option Shared :=
  (Fast.tw14082659384304107361 Fast.tw14364793385576792824 p0 w (boot_heap w.params).objs.size ((boot_heap w.params).nsMap mainGlobals "__annotations__") 2496 (sh0 w os) (topStub p0)).bind fun s =>
    match staticsOk (importedModules p0.main.body) (boot_heap w.params) s.heap && namesBound p0 s.heap && gensDone s && laidKept (boot_heap w.params) s.heap with
    | true => some s
    | false => none
theorem isNs0 (w : World) (os : OsState) : ((sh0 w os).heap.isNs mainGlobals && (sh0 w os).gens.size == 0) = true := by kernel_rfl
theorem topFrom0 (w : World) (os : OsState) : topFrom treeTable p0 w 2496 (sh0 w os) = run0 w os := by
  unfold topFrom
  rw [isNs0, Fast.te14082659384304107361, Fast.te14364793385576792824]
  rfl
theorem ends0 (w : World) : ∃ os, openEnds treeTable p0 w 2496 = run0 w os := by
  obtain ⟨⟨h, gs, d, k, os⟩, e, e'⟩ := Option.map_eq_some_iff.mp (boot_open (p := p0) (N := 2496) opening0 (by decide) fence0 w)
  obtain ⟨rfl, rfl, rfl, rfl⟩ : h = boot_heap w.params ∧ gs = Array.mk [] ∧ d = boot_drawn ∧ k = boot_toks := by simpa using e'
  refine ⟨os, ?_⟩
  unfold openEnds
  rw [e, Option.bind_some]
  exact topFrom0 w os
theorem left0 {α : Type} {Yf : Shared → α} {Ya : World → α}
    (hf : ∀ (w : World) (os : OsState), (run0 (w.withFollow "special-get-raises" false) os).map (fun s => (Fast.tw4187177175401517315 q0 l0 (importedModules p0.main.body) xt0 true s, Yf s)) = some (openGood q0 l0, Ya (w.withFollow "special-get-raises" false)))
    (ht : ∀ (w : World) (os : OsState), (run0 (w.withFollow "special-get-raises" true) os).map (fun s => (Fast.tw4187177175401517315 q0 l0 (importedModules p0.main.body) xt0 true s, Yf s)) = some (openGood q0 l0, Ya (w.withFollow "special-get-raises" true))) :
    LeftO p0 q0 l0 xt0 Yf Ya 2496 := by
  have key : ∀ w : World, (∀ os, (run0 w os).map (fun s => (Fast.tw4187177175401517315 q0 l0 (importedModules p0.main.body) xt0 true s, Yf s)) = some (openGood q0 l0, Ya w)) → (openEnds treeTable p0 w 2496).map (fun s => (openSeen q0 l0 (importedModules p0.main.body) xt0 true s, Yf s)) = some (openGood q0 l0, Ya w) := fun w h => by
    obtain ⟨os, e⟩ := ends0 w
    rw [e, Fast.te4187177175401517315]
    exact h os
  exact byRow2 "special-get-raises" (P := fun w => (openEnds treeTable p0 w 2496).map (fun s => (openSeen q0 l0 (importedModules p0.main.body) xt0 true s, Yf s)) = some (openGood q0 l0, Ya w)) (fun w => key _ (hf w)) fun w => key _ (ht w)
theorem looks0 : looksOpen (OpenLaw.row PySem.Challenge.rw_ty0020_01).toRowW.prog = true := by
  unfold looksOpen
  (repeat' (with_reducible refine look_both ?_ ?_)) <;> decide +kernel
theorem said0 : PySem.Challenge.rw_ty0020_01.wellSaid = true := by
  unfold OpenLaw.wellSaid OpenRow.wellSaid OpenRow.partSaid
  (repeat' (with_reducible refine look_both ?_ ?_)) <;> first | with_reducible exact looks0 | decide +kernel
local macro_rules | `(tactic| o_head (kHook $_ $_ $_)) => `(tactic| assumption)
theorem hd (h : OpenRow.Holds (OpenLaw.row PySem.Challenge.rw_ty0020_01)) : OpenRow.Holds (OpenLaw.row PySem.Challenge.rw_ty0020_01) := by k_head
noncomputable def K2 (P : Params) : W.Frag := (62, { cls := .none, data := .fields #[] }) :: (69, { cls := .none, data := .fields #[] }) :: hd.heap_1 P
def as0 : List Addr := [62,69,2,3,15,17,18,20,21,22,25,30,31,32,34,35,37,38,39,41,42,44,45,46,47,49,50,52,53,54,56,57,59,60,61,63,64,66,67,68,70,71,73,74,75,76,78,79,81,82,83,85,86,88,89,90,91,93,94,96,97,98,99,100,101,102,105,106,108,109,111,112,113,115,116,118,119,120,122,123,125,126,127,129,130,132,133,134,137,138,139,142,143,144,147,148,149,151,152,154,155,156,159,160,161,164,165,166,168,169,171,172,173,176,177,178,180,181,183,184,185,188,189,190,193,194]
theorem as0_ok (P : Params) : as0 = (K2 P).map (·.1) := by kernel_rfl
noncomputable abbrev H0 : Hook := kHook K2 as0 as0_ok
set_option maxRecDepth 100000
theorem seen_f (w : World) (os : OsState) : (run0 (w.withFollow "special-get-raises" false) os).map (fun s => (Fast.tw4187177175401517315 q0 l0 (importedModules p0.main.body) xt0 true s, H0.obs s)) = some (openGood q0 l0, H0.val (w.withFollow "special-get-raises" false)) := by kernel_rfl
theorem seen_t (w : World) (os : OsState) : (run0 (w.withFollow "special-get-raises" true) os).map (fun s => (Fast.tw4187177175401517315 q0 l0 (importedModules p0.main.body) xt0 true s, H0.obs s)) = some (openGood q0 l0, H0.val (w.withFollow "special-get-raises" true)) := by kernel_rfl
end Mine
end

section
open PySem PySem.Calls PyProof.Rows PySem.W
set_option maxRecDepth 100000
namespace Mine
noncomputable abbrev KK (w : World) : W.Frag := hd.heap_1 w.params
structure W0 (w : World) (mg mb : Str → Option Value) (s : Shared) : Prop where
  KX : (K2 w.params).In s.heap
  g : s.heap.Ns mainGlobals mg
  b : s.heap.Ns builtinsNs mb
  lim : s.heap.NoLimit
  boot : ∀ x : Str, x ≠ "__name__" → mb x = bootBuiltins x
  bmain : ∃ bm ob, mg "__builtins__" = some (.ref bm) ∧ bm ≠ builtinsNs ∧ s.heap.get? bm = some ob ∧ ob.cls = .type "module" ∧ ob.dict = some builtinsNs ∧ ob.data = .plain
noncomputable def c0 (mg mb : Str → Option Value) (s : Shared) : Cfg := ⟨s.heap, mg, mb, 66, 62, 73, 69, 100, s.os⟩
section
variable {w : World} {mg mb : Str → Option Value} {s : Shared}
theorem no62 (w : World) : (KK w).lookup 62 = none := by kernel_rfl
theorem no69 (w : World) : (KK w).lookup 69 = none := by kernel_rfl
theorem W0.kk (W : W0 w mg mb s) : (KK w).In s.heap := fun a o e => by
  refine W.KX a o ?_
  unfold K2
  have h1 : a ≠ 62 := fun q => by rw [q, no62] at e; cases e
  have h2 : a ≠ 69 := fun q => by rw [q, no69] at e; cases e
  rw [List.lookup_cons, List.lookup_cons, beq_eq_false_iff_ne.mpr h1, beq_eq_false_iff_ne.mpr h2]
  exact e
theorem W0.t62 (W : W0 w mg mb s) : s.heap.get? 62 = some { cls := .none, data := .fields #[] } := W.KX 62 _ rfl
theorem W0.t69 (W : W0 w mg mb s) : s.heap.get? 69 = some { cls := .none, data := .fields #[] } := W.KX 69 _ rfl
theorem o66 (w : World) : ∃ o vs, (KK w).lookup 66 = some o ∧ o.cls = .type "code" ∧ o.data = .fields vs ∧ vs[11]? = some (.ref 62) := ⟨_, _, rfl, rfl, rfl, rfl⟩
theorem o73 (w : World) : ∃ o vs, (KK w).lookup 73 = some o ∧ o.cls = .type "code" ∧ o.data = .fields vs ∧ vs[11]? = some (.ref 69) := ⟨_, _, rfl, rfl, rfl, rfl⟩
theorem W0.ok (W : W0 w mg mb s) : CfgOK (c0 mg mb s) := by
  obtain ⟨o1, v1, a1, a2, a3, a4⟩ := o66 w
  obtain ⟨o2, v2, b1, b2, b3, b4⟩ := o73 w
  obtain ⟨bm, ob, d1, d2, d3, d4, d5, d6⟩ := W.bmain
  refine ⟨W.g, W.b, W.lim, ?_, ⟨_, W.kk _ _ a1⟩, ⟨_, W.kk _ _ b1⟩, ⟨_, W.t62⟩, ⟨_, W.t69⟩, ?_, ⟨#[], ⟨o1, v1, W.kk _ _ a1, a2, a3, a4⟩, W.t62⟩, ⟨#[], ⟨o2, v2, W.kk _ _ b1, b2, b3, b4⟩, W.t69⟩, bm, ob, d1, d2, d3, d4, d5, d6, fun q => ?_, fun q => ?_⟩
  · exact ⟨(by decide : mainGlobals ≠ 62), (by decide : mainGlobals ≠ 69), (by decide : builtinsNs ≠ 62), (by decide : builtinsNs ≠ 69), (by decide : cStatics ≠ 62), (by decide : cStatics ≠ 69)⟩
  · exact ⟨(by decide : (66 : Nat) ≠ 62), (by decide : (66 : Nat) ≠ 69), (by decide : (73 : Nat) ≠ 62), (by decide : (73 : Nat) ≠ 69), (by decide : (62 : Nat) ≠ 69)⟩
  · have e := W.t62
    rw [show (62 : Nat) = bm from q.symm, d3] at e; cases e; cases d4
  · have e := W.t69
    rw [show (69 : Nat) = bm from q.symm, d3] at e; cases e; cases d4
theorem f_ga (w : World) : findIn (KK w) (.ref 100) "__getattribute__" = some (some (.builtin "list.__getattribute__")) := by kernel_rfl
theorem f_gk (w : World) : findIn (KK w) (.ref 100) "__getattr__" = some none := by kernel_rfl
theorem f_sub (w : World) : mroIn (KK w) 100 (.type "list") = some true := by kernel_rfl
theorem f_nq (w : World) : noSeq (KK w) 100 = true := by kernel_rfl
theorem f_app (w : World) : findIn (KK w) (.ref 100) "append" = some (some (.builtin "list.append")) := by kernel_rfl
theorem f_gi (w : World) : findIn (KK w) (.ref 100) "__getitem__" = some (some (.builtin "list.__getitem__")) := by kernel_rfl
theorem f_si (w : World) : findIn (KK w) (.ref 100) "__setitem__" = some (some (.builtin "list.__setitem__")) := by kernel_rfl
theorem f_it (w : World) : findIn (KK w) (.ref 100) "__iter__" = some (some (.builtin "list.__iter__")) := by kernel_rfl
theorem f_nof (w : World) : findIn (KK w) (.ref 100) "_initial_size" = some none := by kernel_rfl
theorem f_own (w : World) : ∃ cd, clsIn (KK w) 100 = some cd ∧ cd.hasDict = true := ⟨_, rfl, rfl⟩
theorem W0.airK (W : W0 w mg mb s) : AirK (c0 mg mb s) (KK w) where
  inn := W.kk
  off := fun a o e => ⟨fun q => (by rw [show a = 62 from q, no62] at e; cases e), fun q => (by rw [show a = 69 from q, no69] at e; cases e)⟩
  ga := f_ga w
  gk := f_gk w
  sub := f_sub w
  nq := f_nq w
  app := f_app w
  gi := f_gi w
  si := f_si w
  it := f_it w
  own := f_own w
  nof := f_nof w
theorem W0.newK (_ : W0 w mg mb s) : NewK (KK w) 100 where
  obj := ⟨_, _, _, _, rfl, rfl, rfl, rfl, rfl⟩
  call := by kernel_rfl
  typ := by kernel_rfl
noncomputable abbrev PR : Program := PySem.Challenge.rw_ty0020_01.row.prog
theorem W0.gl (W : W0 w mg mb s) {x : Str} {v : Value} (e : nsIn (KK w) mainGlobals x = some (some v)) : mg x = some v := mg_of W.kk W.g e
theorem W0.gn (W : W0 w mg mb s) {x : Str} (e : nsIn (KK w) mainGlobals x = some none) : mg x = none := mg_none_of W.kk W.g e
theorem W0.bi (W : W0 w mg mb s) {x : Str} {v : Value} (hx : (x == ("__name__" : Str)) = false) (e : bootBuiltins x = some v) : mb x = some v := (W.boot x (by simpa using hx)).trans e
theorem f_noq (w : World) : nsIn (KK w) cStatics "thirdparty.any" = some none := by kernel_rfl
theorem f_self (w : World) : mroIn (KK w) 100 (.ref 100) = some true := by kernel_rfl
theorem f_len : alongIn (KK w) "__len__" [.type "list", .type "object"] = some (some (.builtin "list.__len__")) := by kernel_rfl
theorem f_init : alongIn (KK w) "__init__" [.type "list", .type "object"] = some (some (.builtin "list.__init__")) := by kernel_rfl
theorem f_top : (PR.main.scope.names.lookup ("super" : Str)).isSome = false := by kernel_rfl
theorem W0.supK (W : W0 w mg mb s) : SupK (c0 mg mb s) (KK w) PR where
  cls := by
    obtain ⟨oc, od, cd, sl, ho, e1, e2, e3, e4⟩ := W.newK.obj
    exact ⟨_, cd, W.kk _ _ ho, rfl, e4⟩
  noq := f_noq w
  self := f_self w
  len := f_len
  init := f_init
  off := ⟨(by decide : (100 : Nat) ≠ 62), (by decide : (100 : Nat) ≠ 69)⟩
  top := f_top
theorem W0.cell25 (W : W0 w mg mb s) : s.heap.IsCell 25 (some (.ref 100)) := ⟨_, W.kk 25 _ rfl, rfl⟩
theorem count_at (W : W0 w mg mb s) : ∃ o fd body, SupFn (c0 mg mb s) PR 97 o fd body ["self"] ∧ fd.body = .stmts body := by
  refine ⟨_, _, _, ⟨W.kk 97 _ rfl, rfl, ⟨(by decide : (97 : Nat) ≠ 62), (by decide : (97 : Nat) ≠ 69)⟩, rfl, rfl, rfl, ⟨96, _, _, _, _, _, rfl, W.kk 96 _ rfl, rfl, rfl, (by decide : (96 : Nat) ≠ 62), (by decide : (96 : Nat) ≠ 69), rfl, ?_⟩, ⟨25, rfl, W.cell25, (by decide : (25 : Nat) ≠ 62), (by decide : (25 : Nat) ≠ 69)⟩, ?_, ?_, ?_, ?_, rfl, rfl, ⟨_, rfl, rfl, ?_⟩, rfl, rfl, rfl⟩, rfl⟩
  · kernel_rfl
  · intro s' vs _ hl
    obtain ⟨a, rfl⟩ := len1 hl
    exact BindsTo.of_eq rfl
  · decide +kernel
  · decide +kernel
  · decide +kernel
  · decide +kernel
end
end Mine
end

section
open PySem PySem.Calls PyProof.Rows PySem.W
set_option maxRecDepth 100000
namespace Mine
section
variable {w : World} {mg mb : Str → Option Value} {s : Shared} {n : Nat}
noncomputable abbrev OK (w : World) (mg mb : Str → Option Value) (s : Shared) (f : Addr) (n : Nat) (F : List DV → Air → Option (DV × Air)) : Prop := FnOK PR w (c0 mg mb s) f n F
theorem ok_count (W : W0 w mg mb s) : OK w mg mb s 97 (n + 1) countF := by
  refine fn_count (K := KK w) (o := _) (fd := _) (pl := ?pl) ⟨W.kk 97 _ rfl, rfl, ⟨(by decide : (97 : Nat) ≠ 62), (by decide : (97 : Nat) ≠ 69)⟩, rfl, rfl, rfl, ⟨96, _, _, _, _, _, rfl, W.kk 96 _ rfl, rfl, rfl, (by decide : (96 : Nat) ≠ 62), (by decide : (96 : Nat) ≠ 69), rfl, ?_⟩, ⟨25, rfl, W.cell25, (by decide : (25 : Nat) ≠ 62), (by decide : (25 : Nat) ≠ 69)⟩, ?_, ?_, ?_, ?_, rfl, rfl, ⟨_, rfl, rfl, ?_⟩, rfl, rfl, rfl⟩ W.supK W.airK (W.gn ?_) (W.bi ?_ ?_) (fun env => ?ev)
  case ev => exact rfl
  · kernel_rfl
  · intro s' vs _ hl
    obtain ⟨a, rfl⟩ := len1 hl
    exact BindsTo.of_eq rfl
  · decide +kernel
  · decide +kernel
  · decide +kernel
  · decide +kernel
  · kernel_rfl
  · decide +kernel
  · kernel_rfl
end
end Mine
end

section
open PySem PySem.Calls PyProof.Rows PySem.W
set_option maxRecDepth 100000
namespace Mine
section
variable {w : World} {mg mb : Str → Option Value} {s : Shared} {n : Nat}
noncomputable def F_push : SF := kSeq (kExpr (gApp (mVar 0) (gTup (glCons (gP (mVar 1)) (glCons (gP (mVar 2)) glNil))))) kNil
theorem ok_push (W : W0 w mg mb s) : OK w mg mb s 45 (n + 1) (fnOf 3 [] 0 F_push) := by
  refine fn_ok (N := ["self", "fws", "string"]) (xs := ["self", "fws", "string"]) (ys := []) (dv := []) (o := _) (fd := _) ⟨W.kk 45 _ rfl, rfl, ⟨(by decide : (45 : Nat) ≠ 62), (by decide : (45 : Nat) ≠ 69)⟩, rfl, rfl, rfl, rfl, rfl, ⟨44, _, _, _, rfl, W.kk 44 _ rfl, rfl, rfl, (by decide : (44 : Nat) ≠ 62), (by decide : (44 : Nat) ≠ 69)⟩, ?bind, rfl, fun _ _ _ => .nil, ?nofree, ?pars, ?nodup, rfl, rfl, rfl⟩ rfl ?body
  case bind =>
    intro s' vs _ hl
    obtain ⟨a, b, d, rfl⟩ := len3 hl
    exact BindsTo.of_eq rfl
  case nofree => decide +kernel
  case pars => decide +kernel
  case nodup => decide +kernel
  case body =>
    unfold F_push
    refine ss_cons (sx_expr (ge_app W.ok W.airK (se_var rfl) (ge_tup (gl_cons (ge_p (se_var rfl)) (gl_cons (ge_p (se_var rfl)) gl_nil))))) ss_nil
end
end Mine
end

section
open PySem PySem.Calls PyProof.Rows PySem.W
set_option maxRecDepth 100000
namespace Mine
section
variable {w : World} {mg mb : Str → Option Value} {s : Shared} {n : Nat}
noncomputable def F_popfrom : SF := kSeq (kSet 2 (gFrom (mVar 0) (mVar 1))) (kSeq (kClear (mVar 0) (mVar 1)) (kSeq (kRet (gP (mVar 2))) kNil))
theorem ok_popfrom (W : W0 w mg mb s) : OK w mg mb s 53 (n + 1) (fnOf 1 [.int 0] 1 F_popfrom) := by
  refine fn_ok (N := ["self", "i", "popped"]) (xs := ["self", "i"]) (ys := ["popped"]) (dv := [.int 0 229]) (o := _) (fd := _) ⟨W.kk 53 _ rfl, rfl, ⟨(by decide : (53 : Nat) ≠ 62), (by decide : (53 : Nat) ≠ 69)⟩, rfl, rfl, rfl, rfl, rfl, ⟨52, _, _, _, rfl, W.kk 52 _ rfl, rfl, rfl, (by decide : (52 : Nat) ≠ 62), (by decide : (52 : Nat) ≠ 69)⟩, ?bind, rfl, fun _ _ _ => .cons (.int 0 _) .nil, ?nofree, ?pars, ?nodup, rfl, rfl, rfl⟩ rfl ?body
  case bind =>
    intro s' vs g hl
    obtain ⟨a, rfl⟩ := len1 hl
    exact BindsTo.of_defaults rfl (g.keep _ _ (W.kk 46 _ rfl) (by decide : (46 : Nat) ≠ 62) (by decide : (46 : Nat) ≠ 69)) rfl rfl rfl
  case nofree => decide +kernel
  case pars => decide +kernel
  case nodup => decide +kernel
  case body =>
    unfold F_popfrom
    refine ss_cons (sx_set W.ok (by decide +kernel) (ge_from W.airK (se_var rfl) (se_var rfl)) rfl (.inl rfl)) (ss_cons (sx_clear W.ok W.airK (se_var rfl) (se_var rfl)) (ss_cons (sx_ret (ge_p (se_var rfl))) ss_nil))
end
end Mine
end

section
open PySem PySem.Calls PyProof.Rows PySem.W
set_option maxRecDepth 100000
namespace Mine
section
variable {w : World} {mg mb : Str → Option Value} {s : Shared} {n : Nat} {prog : Program}
noncomputable def lenE : List DV → Option DV := mBin .Add (mCall lenD (lCons (mVar 0) lNil)) (mCall lenD (lCons (mVar 1) lNil))
theorem ok_len (W : W0 w mg mb s) : FnOK prog w (c0 mg mb s) 67 (n + 3) (fnOf 1 [] 0 (kLen lenE)) := by
  refine fn_okc (N := ["self"]) (xs := ["self"]) (ys := []) (dv := []) (o := _) (fd := _) ⟨W.kk 67 _ rfl, rfl, ⟨(by decide : (67 : Nat) ≠ 62), (by decide : (67 : Nat) ≠ 69)⟩, rfl, rfl, rfl, rfl, rfl, ⟨66, _, _, _, rfl, W.kk 66 _ rfl, rfl, rfl, (by decide : (66 : Nat) ≠ 62), (by decide : (66 : Nat) ≠ 69)⟩, ?bind, rfl, fun _ _ _ => .nil, ?nofree, ?pars, ?nodup, rfl, rfl, rfl⟩ rfl ?body
  case bind =>
    intro s' vs _ hl
    obtain ⟨a, rfl⟩ := len1 hl
    exact BindsTo.of_eq rfl
  case nofree => decide +kernel
  case pars => decide +kernel
  case nodup => decide +kernel
  case body =>
    refine body_len (c := c0 mg mb s) (K := KK w) (c₀ := 66) (P := 62) W.ok W.airK (.inl ⟨rfl, rfl⟩) rfl ?elt rfl (W.gn ?_) (W.bi ?_ ?_) ?_ ?_ ?_ rfl ?_ rfl rfl rfl ?_ rfl
    case elt => exact se_bin (se_call_bi bi_len rfl (W.gn (by kernel_rfl)) (W.bi (by decide +kernel) (by kernel_rfl)) (sl_cons (se_var rfl) sl_nil)) (se_call_bi bi_len rfl (W.gn (by kernel_rfl)) (W.bi (by decide +kernel) (by kernel_rfl)) (sl_cons (se_var rfl) sl_nil))
    all_goals first | kernel_rfl | decide +kernel
noncomputable def strE : List DV → Option DV := mMeth isStr (mStr "") joinTD (lCons (mTup (lCons (mVar 0) (lCons (mVar 1) lNil))) lNil)
theorem ok_str (W : W0 w mg mb s) : FnOK prog w (c0 mg mb s) 74 (n + 3) (fnOf 1 [] 0 (kStr strE "")) := by
  refine fn_okc (N := ["self"]) (xs := ["self"]) (ys := []) (dv := []) (o := _) (fd := _) ⟨W.kk 74 _ rfl, rfl, ⟨(by decide : (74 : Nat) ≠ 62), (by decide : (74 : Nat) ≠ 69)⟩, rfl, rfl, rfl, rfl, rfl, ⟨73, _, _, _, rfl, W.kk 73 _ rfl, rfl, rfl, (by decide : (73 : Nat) ≠ 62), (by decide : (73 : Nat) ≠ 69)⟩, ?bind, rfl, fun _ _ _ => .nil, ?nofree, ?pars, ?nodup, rfl, rfl, rfl⟩ rfl ?body
  case bind =>
    intro s' vs _ hl
    obtain ⟨a, rfl⟩ := len1 hl
    exact BindsTo.of_eq rfl
  case nofree => decide +kernel
  case pars => decide +kernel
  case nodup => decide +kernel
  case body =>
    refine body_str (c := c0 mg mb s) (K := KK w) (c₀ := 73) (P := 69) (z := "") (zt := 196) W.ok W.airK (.inr ⟨rfl, rfl⟩) rfl ?elt rfl (W.gl ?_) ?_ ?_ ?_ rfl ?_ rfl rfl rfl ?_ rfl rfl
    case elt => exact se_meth1 gm_join bi_joinT (se_con_str rfl (W.gl (v := .str "" 196) (by kernel_rfl)) (by decide +kernel)) (sl_cons (se_tup (sl_cons (se_var rfl) (sl_cons (se_var rfl) sl_nil))) sl_nil)
    all_goals first | kernel_rfl | decide +kernel
end
end Mine
end

section
open PySem PySem.Calls PyProof.Rows PySem.W
set_option maxRecDepth 100000
namespace Mine
section
variable {w : World} {mg mb : Str → Option Value} {s : Shared} {n : Nat}
theorem f_sa (w : World) : findIn (KK w) (.ref 100) "__setattr__" = some (some (.builtin "object.__setattr__")) := by kernel_rfl
theorem ge_new0 (W : W0 w mg mb s) {sc : List (Str × NameKind)} {N : List Str} {np pos : Pos} {e : Expr} {f : List DV → Option DV} (hk : sc.lookup ("_Accumulator" : Str) = some .globalImplicit) (hf : SE PR w (c0 mg mb s) sc N e f) (hst : ∀ env, starEach [e] env = (false, eval e env) :: starEach [] env := by intro _; rfl) :
    GE PR w (c0 mg mb s) sc N (n + 2) (.Call (.Name "_Accumulator" np) [e] [] pos) (gNew f) := by
  refine ge_new (K := KK w) (fI := 38) (o := _) (fd := _) (pl := ?pl) W.ok ⟨W.kk 38 _ rfl, rfl, ⟨(by decide : (38 : Nat) ≠ 62), (by decide : (38 : Nat) ≠ 69)⟩, rfl, rfl, rfl, ⟨37, _, _, _, _, _, rfl, W.kk 37 _ rfl, rfl, rfl, (by decide : (37 : Nat) ≠ 62), (by decide : (37 : Nat) ≠ 69), rfl, ?_⟩, ⟨25, rfl, W.cell25, (by decide : (25 : Nat) ≠ 62), (by decide : (25 : Nat) ≠ 69)⟩, ?_, ?_, ?_, ?_, rfl, rfl, ⟨_, rfl, rfl, ?_⟩, rfl, rfl, rfl⟩ W.supK W.airK W.newK (f_sa w) (W.gn ?_) (W.bi ?_ ?_) (fun env => ?ev) ?_ ?_ ?_ hk (W.gl ?_) hf ?_ hst
  case ev => exact rfl
  · kernel_rfl
  · intro s' vs g hl
    obtain ⟨a, b, rfl⟩ := len2 hl
    exact BindsTo.of_defaults rfl (g.keep _ _ (W.kk 30 _ rfl) (by decide : (30 : Nat) ≠ 62) (by decide : (30 : Nat) ≠ 69)) rfl rfl rfl
  all_goals first | kernel_rfl | decide +kernel
end
end Mine
end

section
open PySem PySem.Calls PyProof.Rows PySem.W
set_option maxRecDepth 100000
namespace Mine
section
variable {w : World} {mg mb : Str → Option Value} {s : Shared} {n : Nat}
noncomputable def F_product : SF := kSeq (kSet 2 (gP (mInt 1))) (kSeq (kSet 3 (gP (mInt 0))) (kSeq (kFor (tName 4) (gP (mCall rangeD (lCons (mVar 1) lNil)))
  (kSeq (kIf (gPT (mCmp .In (mVar 4) (mVar 0))) (kSeq (kAug .Add 3 (gP (mInt 1))) (kSeq (kAug .Mult 2 (gP (mVar 3))) kNil)) (kSeq (kAug .Mult 2 (gP (mBin .Add (mVar 3) (mInt 1)))) kNil)) kNil) kNil) (kSeq (kRet (gP (mVar 2))) kNil)))
theorem ok_product (W : W0 w mg mb s) : OK w mg mb s 184 (n + 1) (fnOf 2 [] 3 F_product) := by
  refine fn_ok (N := ["start", "played", "ways", "down", "beat"]) (xs := ["start", "played"]) (ys := ["ways", "down", "beat"]) (dv := []) (o := _) (fd := _) ⟨W.kk 184 _ rfl, rfl, ⟨(by decide : (184 : Nat) ≠ 62), (by decide : (184 : Nat) ≠ 69)⟩, rfl, rfl, rfl, rfl, rfl, ⟨183, _, _, _, rfl, W.kk 183 _ rfl, rfl, rfl, (by decide : (183 : Nat) ≠ 62), (by decide : (183 : Nat) ≠ 69)⟩, ?bind, rfl, fun _ _ _ => .nil, ?nofree, ?pars, ?nodup, rfl, rfl, rfl⟩ rfl ?body
  case bind =>
    intro s' vs _ hl
    obtain ⟨a, b, rfl⟩ := len2 hl
    exact BindsTo.of_eq rfl
  case nofree => decide +kernel
  case pars => decide +kernel
  case nodup => decide +kernel
  case body =>
    unfold F_product
    have hN : (["start", "played", "ways", "down", "beat"] : List Str).Nodup := by decide +kernel
    refine ss_cons (sx_set W.ok hN (ge_p se_int) rfl (.inl rfl)) (ss_cons (sx_set W.ok hN (ge_p se_int) rfl (.inl rfl)) (ss_cons (sx_for W.ok (ge_p (se_call_ty bi_range rfl (W.gn (by kernel_rfl)) (W.bi (by decide +kernel) (by kernel_rfl)) (sl_cons (se_var rfl) sl_nil))) (tg_name W.ok hN rfl (.inl rfl)) (ss_cons (sx_if (gt_p (st_cmp (se_var rfl) (se_var rfl))) (ss_cons (sx_aug W.ok hN (ge_p se_int) rfl (.inl rfl)) (ss_cons (sx_aug W.ok hN (ge_p (se_var rfl)) rfl (.inl rfl)) ss_nil)) (ss_cons (sx_aug W.ok hN (ge_p (se_bin (se_var rfl) se_int)) rfl (.inl rfl)) ss_nil)) ss_nil) ss_nil (.inr fun _ _ => rfl)) (ss_cons (sx_ret (ge_p (se_var rfl))) ss_nil)))
end
end Mine
end

section
open PySem PySem.Calls PyProof.Rows PySem.W
set_option maxRecDepth 100000
namespace Mine
section
variable {w : World} {mg mb : Str → Option Value} {s : Shared} {n : Nat}
noncomputable def F_subst : SF := kSeq (kIf (gPT (mCmp .Eq (mVar 0) (mVar 1))) (kSeq (kRet (gP (mInt 0))) kNil) kNil) (kSeq (kIf (gPT (mCmp .Eq (mMeth isStr (mVar 0) lowerD lNil) (mMeth isStr (mVar 1) lowerD lNil))) (kSeq (kRet (gP (mInt 1))) kNil) kNil) (kSeq (kRet (gP (mInt 2))) kNil))
theorem ok_subst (W : W0 w mg mb s) : OK w mg mb s 126 (n + 1) (fnOf 2 [] 0 F_subst) := by
  refine fn_ok (N := ["ch_a", "ch_b"]) (xs := ["ch_a", "ch_b"]) (ys := []) (dv := []) (o := _) (fd := _) ⟨W.kk 126 _ rfl, rfl, ⟨(by decide : (126 : Nat) ≠ 62), (by decide : (126 : Nat) ≠ 69)⟩, rfl, rfl, rfl, rfl, rfl, ⟨125, _, _, _, rfl, W.kk 125 _ rfl, rfl, rfl, (by decide : (125 : Nat) ≠ 62), (by decide : (125 : Nat) ≠ 69)⟩, ?bind, rfl, fun _ _ _ => .nil, ?nofree, ?pars, ?nodup, rfl, rfl, rfl⟩ rfl ?body
  case bind =>
    intro s' vs _ hl
    obtain ⟨a, b, rfl⟩ := len2 hl
    exact BindsTo.of_eq rfl
  case nofree => decide +kernel
  case pars => decide +kernel
  case nodup => decide +kernel
  case body =>
    unfold F_subst
    refine ss_cons (sx_if (gt_p (st_cmp (se_var rfl) (se_var rfl))) (ss_cons (sx_ret (ge_p se_int)) ss_nil) ss_nil) (ss_cons (sx_if (gt_p (st_cmp (se_meth0 gm_lower bi_lower (se_var rfl)) (se_meth0 gm_lower bi_lower (se_var rfl)))) (ss_cons (sx_ret (ge_p (se_con_int rfl (W.gl (v := .int 1 351) (by kernel_rfl))))) ss_nil) ss_nil) (ss_cons (sx_ret (ge_p (se_con_int rfl (W.gl (v := .int 2 349) (by kernel_rfl))))) ss_nil))
end
end Mine
end

section
open PySem PySem.Calls PyProof.Rows PySem.W
set_option maxRecDepth 100000
namespace Mine
section
variable {w : World} {mg mb : Str → Option Value} {s : Shared} {n : Nat}
noncomputable def F_row : SF := kSeq (kRet (gP (mMeth isStr (mStr "") joinD (lCons (mComp 1 [0] (mCall rangeD (lCons (mBin .Add (mIdx (mVar 0) (mNeg (mInt 1))) (mInt 1)) lNil)) mAndT (mIf (mCmp .In (mVar 1) (mVar 0)) (mStr "o") (mStr " "))) lNil)))) kNil
theorem ok_row (W : W0 w mg mb s) : OK w mg mb s 160 (n + 1) (fnOf 1 [] 1 F_row) := by
  refine fn_ok (N := ["beats", "k"]) (xs := ["beats"]) (ys := ["k"]) (dv := []) (o := _) (fd := _) ⟨W.kk 160 _ rfl, rfl, ⟨(by decide : (160 : Nat) ≠ 62), (by decide : (160 : Nat) ≠ 69)⟩, rfl, rfl, rfl, rfl, rfl, ⟨159, _, _, _, rfl, W.kk 159 _ rfl, rfl, rfl, (by decide : (159 : Nat) ≠ 62), (by decide : (159 : Nat) ≠ 69)⟩, ?bind, rfl, fun _ _ _ => .nil, ?nofree, ?pars, ?nodup, rfl, rfl, rfl⟩ rfl ?body
  case bind =>
    intro s' vs _ hl
    obtain ⟨a, rfl⟩ := len1 hl
    exact BindsTo.of_eq rfl
  case nofree => decide +kernel
  case pars => decide +kernel
  case nodup => decide +kernel
  case body =>
    unfold F_row
    refine ss_cons (sx_ret (ge_p (se_meth1 gm_join bi_join se_str (sl_cons (se_comp ⟨rfl, ?_, ?_, ?_, rfl, rfl, ?_⟩ (se_call_ty bi_range rfl (W.gn ?_) (W.bi ?_ ?_) (sl_cons (se_bin (se_idx (se_var rfl) (se_neg se_int)) se_int) sl_nil)) si_nil (se_ife (st_cmp (se_var rfl) (se_var rfl)) se_str se_str)) sl_nil)))) ss_nil
    all_goals first | decide +kernel | kernel_rfl
end
end Mine
end

section
open PySem PySem.Calls PyProof.Rows PySem.W
set_option maxRecDepth 100000
namespace Mine
section
variable {w : World} {mg mb : Str → Option Value} {s : Shared} {n : Nat}
noncomputable def F_letters : SF := kSeq (kRet (gP (mMeth isStr (mStr "") joinD (lCons (mComp 1 [0] (mCall rangeD (lCons (mInt 8) lNil)) mAndT (mIf (mCmp .In (mVar 1) (mVar 0)) (mCall chrD (lCons (mBin .Add (mInt 65) (mVar 1)) lNil)) (mCall chrD (lCons (mBin .Add (mInt 97) (mVar 1)) lNil)))) lNil)))) kNil
theorem ok_letters (W : W0 w mg mb s) : OK w mg mb s 165 (n + 1) (fnOf 1 [] 1 F_letters) := by
  refine fn_ok (N := ["beats", "k"]) (xs := ["beats"]) (ys := ["k"]) (dv := []) (o := _) (fd := _) ⟨W.kk 165 _ rfl, rfl, ⟨(by decide : (165 : Nat) ≠ 62), (by decide : (165 : Nat) ≠ 69)⟩, rfl, rfl, rfl, rfl, rfl, ⟨164, _, _, _, rfl, W.kk 164 _ rfl, rfl, rfl, (by decide : (164 : Nat) ≠ 62), (by decide : (164 : Nat) ≠ 69)⟩, ?bind, rfl, fun _ _ _ => .nil, ?nofree, ?pars, ?nodup, rfl, rfl, rfl⟩ rfl ?body
  case bind =>
    intro s' vs _ hl
    obtain ⟨a, rfl⟩ := len1 hl
    exact BindsTo.of_eq rfl
  case nofree => decide +kernel
  case pars => decide +kernel
  case nodup => decide +kernel
  case body =>
    unfold F_letters
    refine ss_cons (sx_ret (ge_p (se_meth1 gm_join bi_join se_str (sl_cons (se_comp ⟨rfl, ?_, ?_, ?_, rfl, rfl, ?_⟩ (se_call_ty bi_range rfl (W.gn ?_) (W.bi ?_ ?_) (sl_cons se_int sl_nil)) si_nil (se_ife (st_cmp (se_var rfl) (se_var rfl)) (se_call_bi bi_chr rfl (W.gn ?_) (W.bi ?_ ?_) (sl_cons (se_bin se_int (se_var rfl)) sl_nil)) (se_call_bi bi_chr rfl (W.gn ?_) (W.bi ?_ ?_) (sl_cons (se_bin se_int (se_var rfl)) sl_nil)))) sl_nil)))) ss_nil
    all_goals first | decide +kernel | kernel_rfl
end
end Mine
end

section
open PySem PySem.Calls PyProof.Rows PySem.W
set_option maxRecDepth 100000
namespace Mine
section
variable {prog : Program} {w : World} {c : Cfg} {sc : List (Str × NameKind)} {N : List Str} {n : Nat}
noncomputable def gLst (f : List DV → Air → Option (DV × Air)) : List DV → Air → Option (DV × Air) := fun ρ α => (f ρ α).bind fun p => if isLst p.1 then some p else none
theorem ge_lst {e : Expr} {f : List DV → Air → Option (DV × Air)} (hf : GE prog w c sc N n e f) : GE prog w c sc N n e (gLst f) := by
  intro A env s X aA α ρ m cm d α' he hA g of hn hd Q E h
  obtain ⟨⟨a, α₁⟩, ha, hd⟩ := obind hd
  split at hd
  · cases hd
    exact hf A env s X aA α ρ m cm _ _ he hA g of hn ha Q E h
  · cases hd
theorem gLst_is {f : List DV → Air → Option (DV × Air)} : ∀ ρ α p, gLst f ρ α = some p → isLst p.1 = true := by
  intro ρ α p h
  obtain ⟨q, _, hd⟩ := obind h
  split at hd
  · rename_i hq; cases hd; exact hq
  · cases hd
noncomputable def lInts : List Int → (List DV → Option (List DV))
  | [] => lNil
  | i :: r => lCons (mInt i) (lInts r)
noncomputable def constE : Expr → Option Const
  | .Constant k _ _ => some k
  | _ => none
theorem constE_some {e : Expr} {k : Const} (h : constE e = some k) : ∃ a p, e = .Constant k a p := by
  unfold constE at h
  split at h
  · cases h; exact ⟨_, _, rfl⟩
  · cases h
noncomputable def intK : Const → Option Int
  | .int i => some i
  | _ => none
theorem intK_some {k : Const} {i : Int} (h : intK k = some i) : k = .int i := by
  cases k with
  | int j => rw [Option.some.inj h]
  | _ => exact nomatch (show (none : Option Int) = some i from h)
noncomputable def strK : Const → Option Str
  | .str i => some i
  | _ => none
theorem strK_some {k : Const} {i : Str} (h : strK k = some i) : k = .str i := by
  cases k with
  | str j => rw [Option.some.inj h]
  | _ => exact nomatch (show (none : Option Str) = some i from h)
noncomputable def constInts : List Expr → Option (List Int)
  | [] => some []
  | e :: r => (constE e).bind fun k => (intK k).bind fun i => (constInts r).map (i :: ·)
theorem sl_ints {es : List Expr} : ∀ {l : List Int}, constInts es = some l → SL prog w c sc N es (lInts l) := by
  induction es with
  | nil => intro l h; cases h; exact sl_nil
  | cons e es ih =>
    intro l h
    obtain ⟨k, h1, h⟩ := obind (show (constE e).bind _ = _ from h)
    obtain ⟨i, h2, h⟩ := obind h
    obtain ⟨l', h', rfl⟩ := omap h
    obtain ⟨a, p, rfl⟩ := constE_some h1
    cases intK_some h2
    exact sl_cons se_int (ih h')
theorem ge_ints {e : Expr} {es : List Expr} {pos : Pos} {l : List Int} (he : e = .List es pos) (h : constInts es = some l) : GE prog w c sc N n e (gP (mList (lInts l))) := by
  subst he
  exact ge_p (se_list (sl_ints h))
noncomputable def lStrs : List Str → (List DV → Option (List DV))
  | [] => lNil
  | i :: r => lCons (mStr i) (lStrs r)
noncomputable def constStrs : List Expr → Option (List Str)
  | [] => some []
  | e :: r => (constE e).bind fun k => (strK k).bind fun i => (constStrs r).map (i :: ·)
theorem sl_strs {es : List Expr} : ∀ {l : List Str}, constStrs es = some l → SL prog w c sc N es (lStrs l) := by
  induction es with
  | nil => intro l h; cases h; exact sl_nil
  | cons e es ih =>
    intro l h
    obtain ⟨k, h1, h⟩ := obind (show (constE e).bind _ = _ from h)
    obtain ⟨i, h2, h⟩ := obind h
    obtain ⟨l', h', rfl⟩ := omap h
    obtain ⟨a, p, rfl⟩ := constE_some h1
    cases strK_some h2
    exact sl_cons se_str (ih h')
theorem ge_strs {e : Expr} {es : List Expr} {pos : Pos} {l : List Str} (he : e = .List es pos) (h : constStrs es = some l) : GE prog w c sc N n e (gP (mList (lStrs l))) := by
  subst he
  exact ge_p (se_list (sl_strs h))
theorem hsw_ok {elt iter : Expr} {x y : Str} {px py pos : Pos} {l : Nat} {ifs : List Expr} {scope : Scope} (hb : (scope.names.any fun p => p.1 == y && (p.2 == .local || p.2 == .cell)) = false) (hk : sc.lookup y = some .local) (hl : (py.line == pos.line) = true) :
    ∀ env, EnvOk env sc → swapsWith (.ListComp elt [⟨.Name x px, iter, ifs, 0⟩] scope pos) (some (.Name y py)) l env = pure true := by
  intro env he
  have h1 : env.blockKind = .function := by unfold Env.blockKind; rw [he.kind]; rfl
  have h2 : env.kindOf y = some .local := (he.kindOf y).trans hk
  show (pure (env.blockKind == .function && env.kindOf y == some .local && py.line == pos.line && !(scope.names.any fun p => p.1 == y && (p.2 == .local || p.2 == .cell))) : Sem Bool) = pure true
  rw [h1, h2, hl, hb]; rfl
end
section
variable {w w' : World} {mg mb : Str → Option Value} {s : Shared} {n : Nat} {prog : Program}
theorem ok_str' (W : W0 w mg mb s) : FnOK prog w' (c0 mg mb s) 74 (n + 3) (fnOf 1 [] 0 (kStr strE "")) := by
  refine fn_okc (N := ["self"]) (xs := ["self"]) (ys := []) (dv := []) (o := _) (fd := _) ⟨W.kk 74 _ rfl, rfl, ⟨(by decide : (74 : Nat) ≠ 62), (by decide : (74 : Nat) ≠ 69)⟩, rfl, rfl, rfl, rfl, rfl, ⟨73, _, _, _, rfl, W.kk 73 _ rfl, rfl, rfl, (by decide : (73 : Nat) ≠ 62), (by decide : (73 : Nat) ≠ 69)⟩, ?bind, rfl, fun _ _ _ => .nil, ?nofree, ?pars, ?nodup, rfl, rfl, rfl⟩ rfl ?body
  case bind =>
    intro s' vs _ hl
    obtain ⟨a, rfl⟩ := len1 hl
    exact BindsTo.of_eq rfl
  case nofree => decide +kernel
  case pars => decide +kernel
  case nodup => decide +kernel
  case body =>
    refine body_str (c := c0 mg mb s) (K := KK w) (c₀ := 73) (P := 69) (z := "") (zt := 196) W.ok W.airK (.inr ⟨rfl, rfl⟩) rfl ?elt rfl (W.gl ?_) ?_ ?_ ?_ rfl ?_ rfl rfl rfl ?_ rfl rfl
    case elt => exact se_meth1 gm_join bi_joinT (se_con_str rfl (W.gl (v := .str "" 196) (by kernel_rfl)) (by decide +kernel)) (sl_cons (se_tup (sl_cons (se_var rfl) (sl_cons (se_var rfl) sl_nil))) sl_nil)
    all_goals first | kernel_rfl | decide +kernel
noncomputable def flagTab : List (Int × Str) := [(1, "OPTIMIZED"), (2, "NEWLOCALS"), (4, "VARARGS"), (8, "VARKEYWORDS"), (16, "NESTED"), (32, "GENERATOR"), (64, "NOFREE"), (128, "COROUTINE"), (256, "ITERABLE_COROUTINE"), (512, "ASYNC_GENERATOR")]
noncomputable def flagName (i : Int) : Option Str := (flagTab.find? (fun p => p.1 == i)).map (·.2)
noncomputable def flagEs : Nat → List (Int × Str) → List DictEntry
  | _, [] => []
  | t, (i, z) :: r => ⟨i, .int i t, .str z (t + 1)⟩ :: flagEs (t + 2) r
theorem flagEs_find (i : Int) : ∀ (t : Nat) (l : List (Int × Str)), match (l.find? (fun p => p.1 == i)).map (·.2) with
    | some z => ∃ u, ((flagEs t l).find? (fun e => (intKind PR w).is i e.key)).map (·.val) = some (.str z u)
    | none => ((flagEs t l).find? (fun e => (intKind PR w).is i e.key)).map (·.val) = none
  | _, [] => rfl
  | t, (j, z) :: r => by
    have ih := flagEs_find i (t + 2) r
    have e : (intKind PR w).is i (.int j t) = (j == i) := by
      show (j == i) = _
      rfl
    rw [List.find?_cons]
    unfold flagEs
    rw [List.find?_cons, e]
    cases h : j == i with
    | true => exact ⟨_, rfl⟩
    | false => exact ih
theorem flagEs_keys : ∀ (t : Nat) (l : List (Int × Str)), (∀ p ∈ l, (intKind PR w).hash p.1 = p.1) → ∀ e ∈ flagEs t l, ∃ k, (intKind PR w).is k e.key = true ∧ e.hash = (intKind PR w).hash k
  | _, [], _, e, he => by cases he
  | t, (j, z) :: r, h, e, he => by
    unfold flagEs at he
    cases he with
    | head => exact ⟨j, intKind_is _ _ _ _, (h _ (.head _)).symm⟩
    | tail _ m => exact flagEs_keys (t + 2) r (fun p hp => h p (.tail _ hp)) e m
theorem flag_obj (w : World) : (KK w).lookup 105 = some ⟨.type "dict", none, .dict (flagEs 295 flagTab).toArray 10, #[]⟩ := by kernel_rfl
theorem get_flags (W : W0 w mg mb s) {sc : List (Str × NameKind)} {N : List Str} {np apos pos : Pos} {e₁ e₂ : Expr} {f g : List DV → Option DV} (hk : sc.lookup ("COMPILER_FLAG_NAMES" : Str) = some .globalImplicit) (hf : SE PR w (c0 mg mb s) sc N e₁ f) (hg' : SE PR w (c0 mg mb s) sc N e₂ g) (hline : (apos.endLine == pos.line) = true := by rfl)
    (hst : ∀ env, backTo pos (starEach [e₁, e₂] env) = [(false, eval e₁ env), (false, eval e₂ env)] := by intro _; rfl) :
    SE PR w (c0 mg mb s) sc N (.Call (.Attribute (.Name "COMPILER_FLAG_NAMES" np) "get" apos) [e₁, e₂] [] pos) (mGet flagName f g) := by
  have ho := W.kk 105 _ (flag_obj w)
  refine se_get (D := 105) hk (W.gl (v := .ref 105) (by kernel_rfl)) (by decide +kernel) ⟨_, ho, rfl, rfl⟩ (by decide : (105 : Nat) ≠ 62) (by decide : (105 : Nat) ≠ 69) ⟨fun k => ((flagEs 295 flagTab).find? (fun e : DictEntry => (intKind PR w).is k e.key)).map (fun e : DictEntry => e.val), ⟨_, _, _, ho, ⟨rfl, rfl, rfl⟩, rfl, ?_, fun k => ?_⟩, fun i => flagEs_find (w := w) i 295 flagTab⟩ hf hg' (by decide +kernel) hline hst
  · intro e he
    refine flagEs_keys 295 flagTab (fun p hp => ?_) e (by simpa using he)
    have : ∀ p ∈ flagTab, hashInt p.1 = p.1 := by decide +kernel
    exact this p hp
  · unfold findBy
    rw [List.find?_toArray]
noncomputable abbrev G_push : List DV → Air → Option (DV × Air) := fnOf 3 [] 0 F_push
noncomputable abbrev G_popfrom : List DV → Air → Option (DV × Air) := fnOf 1 [.int 0] 1 F_popfrom
noncomputable abbrev G_len : List DV → Air → Option (DV × Air) := fnOf 1 [] 0 (kLen lenE)
noncomputable abbrev G_str : List DV → Air → Option (DV × Air) := fnOf 1 [] 0 (kStr strE "")
noncomputable abbrev G_product : List DV → Air → Option (DV × Air) := fnOf 2 [] 3 F_product
noncomputable abbrev G_subst : List DV → Air → Option (DV × Air) := fnOf 2 [] 0 F_subst
noncomputable abbrev G_row : List DV → Air → Option (DV × Air) := fnOf 1 [] 1 F_row
noncomputable abbrev G_letters : List DV → Air → Option (DV × Air) := fnOf 1 [] 1 F_letters
end
end Mine
end

section
open PySem PySem.Calls PyProof.Rows PySem.W
set_option maxRecDepth 100000
namespace Mine
section
variable {w : World} {mg mb : Str → Option Value} {s : Shared} {n : Nat}
noncomputable def F_draws : SF := (kSeq (kSet 1 (gP (mList (lInts [0, 2, 0, 1, 4, 2, 1, 3, 5, 2, 5, 2, 3, 1])))) (kSeq (kSet 2 (gP (mSlice (mVar 0) pNo (pAt (mInt 14))))) (kSeq (kRet (gP (mComp 3 [1, 2] (mCall rangeD (lCons (mInt 14) lNil)) mAndT (mBin .Add (mIdx (mVar 1) (mVar 3)) (mIf (mCmp .Lt (mVar 3) (mCall lenD (lCons (mVar 2) lNil))) (mIdx (mVar 2) (mVar 3)) (mInt 0)))))) kNil)))
noncomputable abbrev G_draws : List DV → Air → Option (DV × Air) := fnOf 1 [] 3 F_draws
theorem ok_draws (W : W0 w mg mb s) : OK w mg mb s 138 (n + 1) G_draws := by
  refine fn_ok (N := ["script", "seeds", "firsts", "k"]) (xs := ["script"]) (ys := ["seeds", "firsts", "k"]) (dv := []) (o := _) (fd := _) ⟨W.kk 138 _ rfl, rfl, ⟨(by decide : (138 : Nat) ≠ 62), (by decide : (138 : Nat) ≠ 69)⟩, rfl, rfl, rfl, rfl, rfl, ⟨137, _, _, _, rfl, W.kk 137 _ rfl, rfl, rfl, (by decide : (137 : Nat) ≠ 62), (by decide : (137 : Nat) ≠ 69)⟩, ?bind, rfl, fun _ _ _ => .nil, ?nofree, ?pars, ?nodup, rfl, rfl, rfl⟩ rfl ?body
  case bind =>
    intro s' vs _ hl
    obtain ⟨a0, rfl⟩ := len1 hl
    exact BindsTo.of_eq rfl
  case nofree => decide +kernel
  case pars => decide +kernel
  case nodup => decide +kernel
  case body =>
    unfold F_draws
    have hN : (["script", "seeds", "firsts", "k"] : List Str).Nodup := by decide +kernel
    refine ss_cons ?h1 ?h2
    case h1 => generalize he : Expr.List _ _ = e; exact sx_set W.ok hN (ge_ints he.symm rfl) rfl (by first | exact .inl rfl | exact .inr rfl) (by subst he; intro _; rfl)
    refine  (ss_cons (sx_set W.ok hN (ge_p (se_slice (se_var rfl) sp_no (sp_at se_int))) rfl (by first | exact .inl rfl | exact .inr rfl)) (ss_cons (sx_ret (ge_p (se_comp ⟨rfl, (by decide +kernel), (by decide +kernel), (by decide +kernel), rfl, rfl, (by decide +kernel)⟩ (se_call_ty bi_range rfl (W.gn (by kernel_rfl)) (W.bi (by decide +kernel) (by kernel_rfl)) (sl_cons se_int sl_nil)) si_nil (se_bin (se_idx (se_var rfl) (se_var rfl)) (se_ife (st_cmp (se_var rfl) (se_call_bi bi_len rfl (W.gn (by kernel_rfl)) (W.bi (by decide +kernel) (by kernel_rfl)) (sl_cons (se_var rfl) sl_nil))) (se_idx (se_var rfl) (se_var rfl)) se_int))))) ss_nil))
noncomputable def B_state_1 : SF := (kSeq (kIf (gPT (mCmp .Lt (mCall lenD (lCons (mVar 3) lNil)) (mVar 1))) (kSeq (kSet 5 (gP (mComp 6 [3] (mCall rangeD (lCons (mInt 8) lNil)) (mCmp .NotIn (mVar 6) (mVar 3)) (mVar 6)))) (kSeq (kSet 3 (gP (mBin .Add (mVar 3) (mList (lCons (mIdx (mVar 5) (mBin .Mod (mVar 4) (mCall lenD (lCons (mVar 5) lNil)))) lNil))))) kNil)) kNil) kNil)
noncomputable def F_state : SF := (kSeq (kSet 3 (gP (mVar 0))) (kSeq (kFor (tName 4) (gP (mVar 2)) B_state_1 kNil) (kSeq (kRet (gP (mCall sortedD (lCons (mVar 3) lNil)))) kNil)))
noncomputable abbrev G_state : List DV → Air → Option (DV × Air) := fnOf 3 [] 4 F_state
theorem ok_state (W : W0 w mg mb s) : OK w mg mb s 143 (n + 1) G_state := by
  refine fn_ok (N := ["held", "balls", "draws", "beats", "number", "free", "k"]) (xs := ["held", "balls", "draws"]) (ys := ["beats", "number", "free", "k"]) (dv := []) (o := _) (fd := _) ⟨W.kk 143 _ rfl, rfl, ⟨(by decide : (143 : Nat) ≠ 62), (by decide : (143 : Nat) ≠ 69)⟩, rfl, rfl, rfl, rfl, rfl, ⟨142, _, _, _, rfl, W.kk 142 _ rfl, rfl, rfl, (by decide : (142 : Nat) ≠ 62), (by decide : (142 : Nat) ≠ 69)⟩, ?bind, rfl, fun _ _ _ => .nil, ?nofree, ?pars, ?nodup, rfl, rfl, rfl⟩ rfl ?body
  case bind =>
    intro s' vs _ hl
    obtain ⟨a0, a1, a2, rfl⟩ := len3 hl
    exact BindsTo.of_eq rfl
  case nofree => decide +kernel
  case pars => decide +kernel
  case nodup => decide +kernel
  case body =>
    unfold F_state B_state_1
    have hN : (["held", "balls", "draws", "beats", "number", "free", "k"] : List Str).Nodup := by decide +kernel
    refine (ss_cons (sx_set W.ok hN (ge_p (se_var rfl)) rfl (by first | exact .inl rfl | exact .inr rfl)) (ss_cons (sx_for W.ok (ge_p (se_var rfl)) (tg_name W.ok hN rfl (by first | exact .inl rfl | exact .inr rfl)) (ss_cons (sx_if (gt_p (st_cmp (se_call_bi bi_len rfl (W.gn (by kernel_rfl)) (W.bi (by decide +kernel) (by kernel_rfl)) (sl_cons (se_var rfl) sl_nil)) (se_var rfl))) (ss_cons (sx_comp W.ok hN rfl rfl ⟨rfl, (by decide +kernel), (by decide +kernel), (by decide +kernel), rfl, rfl, (by decide +kernel)⟩ (se_call_ty bi_range rfl (W.gn (by kernel_rfl)) (W.bi (by decide +kernel) (by kernel_rfl)) (sl_cons se_int sl_nil)) (si_one (st_cmp (se_var rfl) (se_var rfl))) (se_var rfl) (hsw_ok (by kernel_rfl) rfl rfl)) (ss_cons (sx_set W.ok hN (ge_p (se_bin (se_var rfl) (se_list (sl_cons (se_idx (se_var rfl) (se_bin (se_var rfl) (se_call_bi bi_len rfl (W.gn (by kernel_rfl)) (W.bi (by decide +kernel) (by kernel_rfl)) (sl_cons (se_var rfl) sl_nil)))) sl_nil)))) rfl (by first | exact .inl rfl | exact .inr rfl)) ss_nil)) ss_nil) ss_nil) ss_nil (.inr fun _ _ => rfl)) (ss_cons (sx_ret (ge_p (se_call_bi bi_sorted rfl (W.gn (by kernel_rfl)) (W.bi (by decide +kernel) (by kernel_rfl)) (sl_cons (se_var rfl) sl_nil)))) ss_nil)))
noncomputable def B_pretty_1 : SF := (kSeq (kSet 3 (gP (mBin .LShift (mInt 1) (mVar 2)))) (kSeq (kIf (gPT (mTru (mBin .BitAnd (mVar 0) (mVar 3)))) (kSeq (kPush 1 (gP (mGet flagName (mVar 3) (mCall hexD (lCons (mVar 3) lNil))))) (kSeq (kAug .BitXor 0 (gP (mVar 3))) (kSeq (kIf (gPT (mNot (mTru (mVar 0)))) (kSeq kBrk kNil) kNil) kNil))) kNil) kNil))
noncomputable def F_pretty : SF := (kSeq (kOwn 1 (mList lNil)) (kSeq (kFor (tName 2) (gP (mCall rangeD (lCons (mInt 32) lNil))) B_pretty_1 kDead) (fun σ => (kSeq (kRet (gP (mMeth isStr (mStr ", ") joinD (lCons (mVar 1) lNil)))) kNil) (frz σ))))
noncomputable abbrev G_pretty : List DV → Air → Option (DV × Air) := fnOf 1 [] 3 F_pretty
theorem ok_pretty (W : W0 w mg mb s) : OK w mg mb s 112 (n + 1) G_pretty := by
  refine fn_ok (N := ["flags", "names", "i", "flag"]) (xs := ["flags"]) (ys := ["names", "i", "flag"]) (dv := []) (o := _) (fd := _) ⟨W.kk 112 _ rfl, rfl, ⟨(by decide : (112 : Nat) ≠ 62), (by decide : (112 : Nat) ≠ 69)⟩, rfl, rfl, rfl, rfl, rfl, ⟨111, _, _, _, rfl, W.kk 111 _ rfl, rfl, rfl, (by decide : (111 : Nat) ≠ 62), (by decide : (111 : Nat) ≠ 69)⟩, ?bind, rfl, fun _ _ _ => .nil, ?nofree, ?pars, ?nodup, rfl, rfl, rfl⟩ rfl ?body
  case bind =>
    intro s' vs _ hl
    obtain ⟨a0, rfl⟩ := len1 hl
    exact BindsTo.of_eq rfl
  case nofree => decide +kernel
  case pars => decide +kernel
  case nodup => decide +kernel
  case body =>
    unfold F_pretty B_pretty_1
    have hN : (["flags", "names", "i", "flag"] : List Str).Nodup := by decide +kernel
    refine (ss_cons (sx_own W.ok hN (se_list sl_nil) rfl (by first | exact .inl rfl | exact .inr rfl)) (ss_cons (sx_for W.ok (ge_p (se_call_ty bi_range rfl (W.gn (by kernel_rfl)) (W.bi (by decide +kernel) (by kernel_rfl)) (sl_cons se_int sl_nil))) (tg_name W.ok hN rfl (by first | exact .inl rfl | exact .inr rfl)) (ss_cons (sx_set W.ok hN (ge_p (se_bin se_int (se_var rfl))) rfl (by first | exact .inl rfl | exact .inr rfl)) (ss_cons (sx_if (gt_p (st_tru (se_bin (se_var rfl) (se_var rfl)))) (ss_cons (sx_push W.ok (ge_p (get_flags W rfl (se_var rfl) (se_call_bi bi_hex rfl (W.gn (by kernel_rfl)) (W.bi (by decide +kernel) (by kernel_rfl)) (sl_cons (se_var rfl) sl_nil)))) rfl) (ss_cons (sx_aug W.ok hN (ge_p (se_var rfl)) rfl (by first | exact .inl rfl | exact .inr rfl)) (ss_cons (sx_if (gt_p (st_not (st_tru (se_var rfl)))) (ss_cons sx_brk ss_nil) ss_nil) ss_nil))) ss_nil) ss_nil)) ss_dead (.inr fun _ _ => rfl)) (ss_frz (ss_cons (sx_ret (ge_p (se_meth1 gm_join bi_join se_str (sl_cons (se_var rfl) sl_nil)))) ss_nil))))
noncomputable def B_air_1 : SF := (kSeq (kExpr (gMethA G_push (mVar 1) (glCons (gP (mBin .Mult (mStr " ") (mBin .Sub (mBin .Sub (mVar 3) (mVar 2)) (mInt 1)))) (glCons (gP (mStr "o")) glNil)))) (kSeq (kSet 2 (gP (mVar 3))) kNil))
noncomputable def F_air : SF := (kSeq (kSet 1 (gNew (mInt 2))) (kSeq (kSet 2 (gP (mNeg (mInt 1)))) (kSeq (kFor (tName 3) (gP (mVar 0)) B_air_1 kNil) (kSeq (kRet (gP (mVar 1))) kNil))))
noncomputable abbrev G_air : List DV → Air → Option (DV × Air) := fnOf 1 [] 3 F_air
theorem ok_air (W : W0 w mg mb s) : OK w mg mb s 155 (n + 5) G_air := by
  refine fn_ok (N := ["beats", "air", "ahead", "beat"]) (xs := ["beats"]) (ys := ["air", "ahead", "beat"]) (dv := []) (o := _) (fd := _) ⟨W.kk 155 _ rfl, rfl, ⟨(by decide : (155 : Nat) ≠ 62), (by decide : (155 : Nat) ≠ 69)⟩, rfl, rfl, rfl, rfl, rfl, ⟨154, _, _, _, rfl, W.kk 154 _ rfl, rfl, rfl, (by decide : (154 : Nat) ≠ 62), (by decide : (154 : Nat) ≠ 69)⟩, ?bind, rfl, fun _ _ _ => .nil, ?nofree, ?pars, ?nodup, rfl, rfl, rfl⟩ rfl ?body
  case bind =>
    intro s' vs _ hl
    obtain ⟨a0, rfl⟩ := len1 hl
    exact BindsTo.of_eq rfl
  case nofree => decide +kernel
  case pars => decide +kernel
  case nodup => decide +kernel
  case body =>
    unfold F_air B_air_1
    have hN : (["beats", "air", "ahead", "beat"] : List Str).Nodup := by decide +kernel
    refine (ss_cons (sx_set W.ok hN (ge_new0 W rfl se_int) rfl (by first | exact .inl rfl | exact .inr rfl)) (ss_cons (sx_set W.ok hN (ge_p (se_neg se_int)) rfl (by first | exact .inl rfl | exact .inr rfl)) (ss_cons (sx_for W.ok (ge_p (se_var rfl)) (tg_name W.ok hN rfl (by first | exact .inl rfl | exact .inr rfl)) (ss_cons (sx_expr (ge_methA (hev := hev1) W.airK ⟨(by kernel_rfl), (by kernel_rfl), W.kk 45 _ rfl, rfl, ⟨(by decide : (45 : Nat) ≠ 62), (by decide : (45 : Nat) ≠ 69)⟩, (by decide +kernel)⟩ (ok_push W) (se_var rfl) (gl_cons (ge_p (se_bin se_str (se_bin (se_bin (se_var rfl) (se_var rfl)) se_int))) (gl_cons (ge_p se_str) gl_nil)))) (ss_cons (sx_set W.ok hN (ge_p (se_var rfl)) rfl (by first | exact .inl rfl | exact .inr rfl)) ss_nil)) ss_nil (.inr fun _ _ => rfl)) (ss_cons (sx_ret (ge_p (se_var rfl))) ss_nil))))
noncomputable def B_beat_1 : SF := (kSeq (kIf (gPT (mChain .LtE .Lt (mInt 0) (mVar 3) (mCall lenD (lCons (mVar 4) lNil)))) (kSeq (kExpr (gMethA G_push (mVar 0) (glCons (gP (mSlice (mVar 4) pNo (pAt (mVar 3)))) (glCons (gP (mStr "o")) glNil)))) (kSeq (kSet 4 (gP (mSlice (mVar 4) (pAt (mBin .Add (mVar 3) (mInt 1))) pNo))) (kSeq (kSet 3 (gP (mNeg (mInt 1)))) kNil))) (kSeq (kIf (gPT (mCmp .GtE (mVar 3) (mInt 0))) (kSeq (kAug .Sub 3 (gP (mBin .Add (mCall lenD (lCons (mVar 4) lNil)) (mInt 1)))) kNil) kNil) kNil)) (kSeq (kExpr (gMethA G_push (mVar 0) (glCons (gP (mVar 4)) (glCons (gP (mVar 5)) glNil)))) kNil))
noncomputable def F_beat : SF := (kSeq (kIf (gPT (mCmp .Eq (mVar 2) (mInt 0))) (kSeq (kExpr (gMethA G_push (mVar 0) (glCons (gP (mSlice (mIdx (mIdx (mVar 1) (mInt 0)) (mInt 0)) (pAt (mInt 1)) pNo)) (glCons (gP (mStr "o")) glNil)))) kNil) kNil) (kSeq (kSet 3 (gP (mBin .Sub (mVar 2) (mInt 1)))) (kSeq (kFor (tTup 2 (tCons (tName 4) (tCons (tName 5) tNil))) (gLst (gP (mSlice (mVar 1) (pAt (mInt 1)) pNo))) B_beat_1 kNil) (kSeq (kIf (gPT (mCmp .GtE (mVar 3) (mInt 0))) (kSeq (kExpr (gMethA G_push (mVar 0) (glCons (gP (mBin .Mult (mStr " ") (mVar 3))) (glCons (gP (mStr "o")) glNil)))) kNil) kNil) kNil))))
noncomputable abbrev G_beat : List DV → Air → Option (DV × Air) := fnOf 3 [] 3 F_beat
theorem ok_beat (W : W0 w mg mb s) : OK w mg mb s 172 (n + 5) G_beat := by
  refine fn_ok (N := ["air", "pieces", "height", "place", "blanks", "ball"]) (xs := ["air", "pieces", "height"]) (ys := ["place", "blanks", "ball"]) (dv := []) (o := _) (fd := _) ⟨W.kk 172 _ rfl, rfl, ⟨(by decide : (172 : Nat) ≠ 62), (by decide : (172 : Nat) ≠ 69)⟩, rfl, rfl, rfl, rfl, rfl, ⟨171, _, _, _, rfl, W.kk 171 _ rfl, rfl, rfl, (by decide : (171 : Nat) ≠ 62), (by decide : (171 : Nat) ≠ 69)⟩, ?bind, rfl, fun _ _ _ => .nil, ?nofree, ?pars, ?nodup, rfl, rfl, rfl⟩ rfl ?body
  case bind =>
    intro s' vs _ hl
    obtain ⟨a0, a1, a2, rfl⟩ := len3 hl
    exact BindsTo.of_eq rfl
  case nofree => decide +kernel
  case pars => decide +kernel
  case nodup => decide +kernel
  case body =>
    unfold F_beat B_beat_1
    have hN : (["air", "pieces", "height", "place", "blanks", "ball"] : List Str).Nodup := by decide +kernel
    refine (ss_cons (sx_if (gt_p (st_cmp (se_var rfl) se_int)) (ss_cons (sx_expr (ge_methA (hev := hev1) W.airK ⟨(by kernel_rfl), (by kernel_rfl), W.kk 45 _ rfl, rfl, ⟨(by decide : (45 : Nat) ≠ 62), (by decide : (45 : Nat) ≠ 69)⟩, (by decide +kernel)⟩ (ok_push W) (se_var rfl) (gl_cons (ge_p (se_slice (se_idx (se_idx (se_var rfl) se_int) se_int) (sp_at se_int) sp_no)) (gl_cons (ge_p se_str) gl_nil)))) ss_nil) ss_nil) (ss_cons (sx_set W.ok hN (ge_p (se_bin (se_var rfl) se_int)) rfl (by first | exact .inl rfl | exact .inr rfl)) (ss_cons (sx_for W.ok (ge_lst (ge_p (se_slice (se_var rfl) (sp_at se_int) sp_no))) (tg_tup (tgl_cons (tg_name W.ok hN rfl (by first | exact .inl rfl | exact .inr rfl)) (tgl_cons (tg_name W.ok hN rfl (by first | exact .inl rfl | exact .inr rfl)) tgl_nil))) (ss_cons (sx_if (gt_p (st_chain se_int (se_var rfl) (se_call_bi bi_len rfl (W.gn (by kernel_rfl)) (W.bi (by decide +kernel) (by kernel_rfl)) (sl_cons (se_var rfl) sl_nil)))) (ss_cons (sx_expr (ge_methA (hev := hev1) W.airK ⟨(by kernel_rfl), (by kernel_rfl), W.kk 45 _ rfl, rfl, ⟨(by decide : (45 : Nat) ≠ 62), (by decide : (45 : Nat) ≠ 69)⟩, (by decide +kernel)⟩ (ok_push W) (se_var rfl) (gl_cons (ge_p (se_slice (se_var rfl) sp_no (sp_at (se_var rfl)))) (gl_cons (ge_p se_str) gl_nil)))) (ss_cons (sx_set W.ok hN (ge_p (se_slice (se_var rfl) (sp_at (se_bin (se_var rfl) se_int)) sp_no)) rfl (by first | exact .inl rfl | exact .inr rfl)) (ss_cons (sx_set W.ok hN (ge_p (se_neg se_int)) rfl (by first | exact .inl rfl | exact .inr rfl)) ss_nil))) (ss_cons (sx_if (gt_p (st_cmp (se_var rfl) se_int)) (ss_cons (sx_aug W.ok hN (ge_p (se_bin (se_call_bi bi_len rfl (W.gn (by kernel_rfl)) (W.bi (by decide +kernel) (by kernel_rfl)) (sl_cons (se_var rfl) sl_nil)) se_int)) rfl (by first | exact .inl rfl | exact .inr rfl)) ss_nil) ss_nil) ss_nil)) (ss_cons (sx_expr (ge_methA (hev := hev1) W.airK ⟨(by kernel_rfl), (by kernel_rfl), W.kk 45 _ rfl, rfl, ⟨(by decide : (45 : Nat) ≠ 62), (by decide : (45 : Nat) ≠ 69)⟩, (by decide +kernel)⟩ (ok_push W) (se_var rfl) (gl_cons (ge_p (se_var rfl)) (gl_cons (ge_p (se_var rfl)) gl_nil)))) ss_nil)) ss_nil (.inl gLst_is)) (ss_cons (sx_if (gt_p (st_cmp (se_var rfl) se_int)) (ss_cons (sx_expr (ge_methA (hev := hev1) W.airK ⟨(by kernel_rfl), (by kernel_rfl), W.kk 45 _ rfl, rfl, ⟨(by decide : (45 : Nat) ≠ 62), (by decide : (45 : Nat) ≠ 69)⟩, (by decide +kernel)⟩ (ok_push W) (se_var rfl) (gl_cons (ge_p (se_bin se_str (se_var rfl))) (gl_cons (ge_p se_str) gl_nil)))) ss_nil) ss_nil) ss_nil))))
noncomputable def B_lev_1 : SF := (kSeq (kAug .Add 3 (gP (mInt 1))) kNil)
noncomputable def T_lev_2 : List DV → Air → Option (Bool × Air) := (gPT (mAnd (mTru (mSlice (mVar 0) (pAt (mVar 3)) pNo)) (mAnd (mTru (mSlice (mVar 1) (pAt (mVar 3)) pNo)) (mAnd (mCmp .Eq (mIdx (mVar 0) (mVar 3)) (mIdx (mVar 1) (mVar 3))) mAndT))))
noncomputable def B_lev_3 : SF := (kSeq (kAug .Sub 4 (gP (mInt 1))) kNil)
noncomputable def T_lev_4 : List DV → Air → Option (Bool × Air) := (gPT (mAnd (mTru (mSlice (mVar 0) pNo (pAt (mOrV (mVar 4) mNone)))) (mAnd (mTru (mSlice (mVar 1) pNo (pAt (mOrV (mVar 4) mNone)))) (mAnd (mCmp .Eq (mIdx (mVar 0) (mBin .Sub (mVar 4) (mInt 1))) (mIdx (mVar 1) (mBin .Sub (mVar 4) (mInt 1)))) mAndT))))
noncomputable def B_lev_5 : SF := (kSeq (kSet 12 (gBin .Add (gP (mVar 9)) (gCall G_subst (glCons (gP (mVar 8)) (glCons (gP (mIdx (mVar 0) (mVar 11))) glNil))))) (kSeq (kSetO 9 (mIdx (mVar 5) (mVar 11))) (kSeq (kSet 13 (gP (mBin .Add (mCall minD (lCons (mVar 6) (lCons (mVar 9) lNil))) (mInt 2)))) (kSeq (kSet 6 (gP (mCall minD (lCons (mVar 13) (lCons (mVar 12) lNil))))) (kSeq (kPut 5 (mVar 6) (mVar 11)) (kSeq (kIf (gPT (mCmp .Lt (mVar 6) (mVar 10))) (kSeq (kSet 10 (gP (mVar 6))) kNil) kNil) kNil))))))
noncomputable def B_lev_6 : SF := (kSeq (kSet 8 (gP (mIdx (mVar 1) (mVar 7)))) (kSeq (kSet2 9 6 (gP (mBin .Mult (mVar 7) (mInt 2)))) (kSeq (kSet 10 (gP (mInt 9223372036854775807))) (kSeq (kFor (tName 11) (gP (mCall rangeD (lCons (mCall lenD (lCons (mVar 0) lNil)) lNil))) B_lev_5 kNil) (kSeq (kIf (gPT (mCmp .Gt (mVar 10) (mVar 2))) (kSeq (kRet (gP (mBin .Add (mVar 2) (mInt 1)))) kNil) kNil) kNil)))))
noncomputable def F_lev : SF := (kSeq (kIf (gPT (mCmp .Eq (mVar 0) (mVar 1))) (kSeq (kRet (gP (mInt 0))) kNil) kNil) (kSeq (kSet 3 (gP (mInt 0))) (kSeq (whGo T_lev_2 B_lev_1 9) (kSeq (kSet 0 (gP (mSlice (mVar 0) (pAt (mVar 3)) pNo))) (kSeq (kSet 1 (gP (mSlice (mVar 1) (pAt (mVar 3)) pNo))) (kSeq (kSet 4 (gP (mInt 0))) (kSeq (whGo T_lev_4 B_lev_3 9) (kSeq (kSet 0 (gP (mSlice (mVar 0) pNo (pAt (mOrV (mVar 4) mNone))))) (kSeq (kSet 1 (gP (mSlice (mVar 1) pNo (pAt (mOrV (mVar 4) mNone))))) (kSeq (kIf (gPT (mOr (mNot (mTru (mVar 0))) (mOr (mNot (mTru (mVar 1))) mOrF))) (kSeq (kRet (gP (mBin .Mult (mInt 2) (mBin .Add (mCall lenD (lCons (mVar 0) lNil)) (mCall lenD (lCons (mVar 1) lNil)))))) kNil) kNil) (kSeq (kIf (gPT (mOr (mCmp .Gt (mCall lenD (lCons (mVar 0) lNil)) (mInt 40)) (mOr (mCmp .Gt (mCall lenD (lCons (mVar 1) lNil)) (mInt 40)) mOrF))) (kSeq (kRet (gP (mBin .Add (mVar 2) (mInt 1)))) kNil) kNil) (kSeq (kIf (gPT (mCmp .Lt (mCall lenD (lCons (mVar 1) lNil)) (mCall lenD (lCons (mVar 0) lNil)))) (kSeq kDead kNil) kNil) (kSeq (kIf (gPT (mCmp .Gt (mBin .Mult (mBin .Sub (mCall lenD (lCons (mVar 1) lNil)) (mCall lenD (lCons (mVar 0) lNil))) (mInt 2)) (mVar 2))) (kSeq (kRet (gP (mBin .Add (mVar 2) (mInt 1)))) kNil) kNil) (kSeq (kOwn 5 (mCall listD (lCons (mCall rangeD (lCons (mInt 2) (lCons (mBin .Mult (mInt 2) (mBin .Add (mCall lenD (lCons (mVar 0) lNil)) (mInt 1))) (lCons (mInt 2) lNil)))) lNil))) (kSeq (kSet 6 (gP (mInt 0))) (kSeq (kFor (tName 7) (gP (mCall rangeD (lCons (mCall lenD (lCons (mVar 1) lNil)) lNil))) B_lev_6 kNil) (kSeq (kRet (gP (mVar 6))) kNil)))))))))))))))))
noncomputable abbrev G_lev : List DV → Air → Option (DV × Air) := fnOf 3 [] 11 F_lev
theorem ok_lev (W : W0 w mg mb s) : OK w mg mb s 133 (n + 4) G_lev := by
  refine fn_ok (N := ["a", "b", "max_cost", "pre", "post", "row", "result", "bindex", "bchar", "distance", "minimum", "index", "substitute", "insert_delete"]) (xs := ["a", "b", "max_cost"]) (ys := ["pre", "post", "row", "result", "bindex", "bchar", "distance", "minimum", "index", "substitute", "insert_delete"]) (dv := []) (o := _) (fd := _) ⟨W.kk 133 _ rfl, rfl, ⟨(by decide : (133 : Nat) ≠ 62), (by decide : (133 : Nat) ≠ 69)⟩, rfl, rfl, rfl, rfl, rfl, ⟨132, _, _, _, rfl, W.kk 132 _ rfl, rfl, rfl, (by decide : (132 : Nat) ≠ 62), (by decide : (132 : Nat) ≠ 69)⟩, ?bind, rfl, fun _ _ _ => .nil, ?nofree, ?pars, ?nodup, rfl, rfl, rfl⟩ rfl ?body
  case bind =>
    intro s' vs _ hl
    obtain ⟨a0, a1, a2, rfl⟩ := len3 hl
    exact BindsTo.of_eq rfl
  case nofree => decide +kernel
  case pars => decide +kernel
  case nodup => decide +kernel
  case body =>
    unfold F_lev B_lev_6 B_lev_5 T_lev_4 B_lev_3 T_lev_2 B_lev_1
    have hN : (["a", "b", "max_cost", "pre", "post", "row", "result", "bindex", "bchar", "distance", "minimum", "index", "substitute", "insert_delete"] : List Str).Nodup := by decide +kernel
    refine (ss_cons (sx_if (gt_p (st_cmp (se_var rfl) (se_var rfl))) (ss_cons (sx_ret (ge_p se_int)) ss_nil) ss_nil) (ss_cons (sx_set W.ok hN (ge_p se_int) rfl (by first | exact .inl rfl | exact .inr rfl)) (ss_cons (sx_while 9 (gt_p (st_bool (sa_and (st_tru (se_slice (se_var rfl) (sp_at (se_var rfl)) sp_no)) (sa_and (st_tru (se_slice (se_var rfl) (sp_at (se_var rfl)) sp_no)) (sa_and (st_cmp (se_idx (se_var rfl) (se_var rfl)) (se_idx (se_var rfl) (se_var rfl))) sa_and_nil))))) (ss_cons (sx_aug W.ok hN (ge_p se_int) rfl (by first | exact .inl rfl | exact .inr rfl)) ss_nil)) (ss_cons (sx_set W.ok hN (ge_p (se_slice (se_var rfl) (sp_at (se_var rfl)) sp_no)) rfl (by first | exact .inl rfl | exact .inr rfl)) (ss_cons (sx_set W.ok hN (ge_p (se_slice (se_var rfl) (sp_at (se_var rfl)) sp_no)) rfl (by first | exact .inl rfl | exact .inr rfl)) (ss_cons (sx_set W.ok hN (ge_p se_int) rfl (by first | exact .inl rfl | exact .inr rfl)) (ss_cons (sx_while 9 (gt_p (st_bool (sa_and (st_tru (se_slice (se_var rfl) sp_no (sp_at (se_or (se_var rfl) se_none)))) (sa_and (st_tru (se_slice (se_var rfl) sp_no (sp_at (se_or (se_var rfl) se_none)))) (sa_and (st_cmp (se_idx (se_var rfl) (se_bin (se_var rfl) se_int)) (se_idx (se_var rfl) (se_bin (se_var rfl) se_int))) sa_and_nil))))) (ss_cons (sx_aug W.ok hN (ge_p se_int) rfl (by first | exact .inl rfl | exact .inr rfl)) ss_nil)) (ss_cons (sx_set W.ok hN (ge_p (se_slice (se_var rfl) sp_no (sp_at (se_or (se_var rfl) se_none)))) rfl (by first | exact .inl rfl | exact .inr rfl)) (ss_cons (sx_set W.ok hN (ge_p (se_slice (se_var rfl) sp_no (sp_at (se_or (se_var rfl) se_none)))) rfl (by first | exact .inl rfl | exact .inr rfl)) (ss_cons (sx_if (gt_p (st_bool (sa_or (st_not (st_tru (se_var rfl))) (sa_or (st_not (st_tru (se_var rfl))) sa_or_nil)))) (ss_cons (sx_ret (ge_p (se_bin (se_con_int rfl (W.gl (v := .int 2 349) (by kernel_rfl))) (se_bin (se_call_bi bi_len rfl (W.gn (by kernel_rfl)) (W.bi (by decide +kernel) (by kernel_rfl)) (sl_cons (se_var rfl) sl_nil)) (se_call_bi bi_len rfl (W.gn (by kernel_rfl)) (W.bi (by decide +kernel) (by kernel_rfl)) (sl_cons (se_var rfl) sl_nil)))))) ss_nil) ss_nil) (ss_cons (sx_if (gt_p (st_bool (sa_or (st_cmp (se_call_bi bi_len rfl (W.gn (by kernel_rfl)) (W.bi (by decide +kernel) (by kernel_rfl)) (sl_cons (se_var rfl) sl_nil)) (se_con_int rfl (W.gl (v := .int 40 347) (by kernel_rfl)))) (sa_or (st_cmp (se_call_bi bi_len rfl (W.gn (by kernel_rfl)) (W.bi (by decide +kernel) (by kernel_rfl)) (sl_cons (se_var rfl) sl_nil)) (se_con_int rfl (W.gl (v := .int 40 347) (by kernel_rfl)))) sa_or_nil)))) (ss_cons (sx_ret (ge_p (se_bin (se_var rfl) se_int))) ss_nil) ss_nil) (ss_cons (sx_if (gt_p (st_cmp (se_call_bi bi_len rfl (W.gn (by kernel_rfl)) (W.bi (by decide +kernel) (by kernel_rfl)) (sl_cons (se_var rfl) sl_nil)) (se_call_bi bi_len rfl (W.gn (by kernel_rfl)) (W.bi (by decide +kernel) (by kernel_rfl)) (sl_cons (se_var rfl) sl_nil)))) (ss_cons sx_dead ss_nil) ss_nil) (ss_cons (sx_if (gt_p (st_cmp (se_bin (se_bin (se_call_bi bi_len rfl (W.gn (by kernel_rfl)) (W.bi (by decide +kernel) (by kernel_rfl)) (sl_cons (se_var rfl) sl_nil)) (se_call_bi bi_len rfl (W.gn (by kernel_rfl)) (W.bi (by decide +kernel) (by kernel_rfl)) (sl_cons (se_var rfl) sl_nil))) (se_con_int rfl (W.gl (v := .int 2 349) (by kernel_rfl)))) (se_var rfl))) (ss_cons (sx_ret (ge_p (se_bin (se_var rfl) se_int))) ss_nil) ss_nil) (ss_cons (sx_own W.ok hN (se_call_ty bi_list rfl (W.gn (by kernel_rfl)) (W.bi (by decide +kernel) (by kernel_rfl)) (sl_cons (se_call_ty bi_range rfl (W.gn (by kernel_rfl)) (W.bi (by decide +kernel) (by kernel_rfl)) (sl_cons (se_con_int rfl (W.gl (v := .int 2 349) (by kernel_rfl))) (sl_cons (se_bin (se_con_int rfl (W.gl (v := .int 2 349) (by kernel_rfl))) (se_bin (se_call_bi bi_len rfl (W.gn (by kernel_rfl)) (W.bi (by decide +kernel) (by kernel_rfl)) (sl_cons (se_var rfl) sl_nil)) se_int)) (sl_cons (se_con_int rfl (W.gl (v := .int 2 349) (by kernel_rfl))) sl_nil)))) sl_nil)) rfl (by first | exact .inl rfl | exact .inr rfl)) (ss_cons (sx_set W.ok hN (ge_p se_int) rfl (by first | exact .inl rfl | exact .inr rfl)) (ss_cons (sx_for W.ok (ge_p (se_call_ty bi_range rfl (W.gn (by kernel_rfl)) (W.bi (by decide +kernel) (by kernel_rfl)) (sl_cons (se_call_bi bi_len rfl (W.gn (by kernel_rfl)) (W.bi (by decide +kernel) (by kernel_rfl)) (sl_cons (se_var rfl) sl_nil)) sl_nil))) (tg_name W.ok hN rfl (by first | exact .inl rfl | exact .inr rfl)) (ss_cons (sx_set W.ok hN (ge_p (se_idx (se_var rfl) (se_var rfl))) rfl (by first | exact .inl rfl | exact .inr rfl)) (ss_cons (sx_set2 W.ok hN (ge_p (se_bin (se_var rfl) (se_con_int rfl (W.gl (v := .int 2 349) (by kernel_rfl))))) rfl (by first | exact .inl rfl | exact .inr rfl) rfl (by first | exact .inl rfl | exact .inr rfl)) (ss_cons (sx_set W.ok hN (ge_p se_int) rfl (by first | exact .inl rfl | exact .inr rfl)) (ss_cons (sx_for W.ok (ge_p (se_call_ty bi_range rfl (W.gn (by kernel_rfl)) (W.bi (by decide +kernel) (by kernel_rfl)) (sl_cons (se_call_bi bi_len rfl (W.gn (by kernel_rfl)) (W.bi (by decide +kernel) (by kernel_rfl)) (sl_cons (se_var rfl) sl_nil)) sl_nil))) (tg_name W.ok hN rfl (by first | exact .inl rfl | exact .inr rfl)) (ss_cons (sx_set W.ok hN (ge_bin (ge_p (se_var rfl)) (ge_call (ok_subst W) rfl (W.gl (v := .ref 126) (by kernel_rfl)) (W.kk 126 _ rfl) rfl ⟨(by decide : (126 : Nat) ≠ 62), (by decide : (126 : Nat) ≠ 69)⟩ (gl_cons (ge_p (se_var rfl)) (gl_cons (ge_p (se_idx (se_var rfl) (se_var rfl))) gl_nil)))) rfl (by first | exact .inl rfl | exact .inr rfl)) (ss_cons (sx_setO W.ok hN (se_idx (se_var rfl) (se_var rfl)) rfl (by first | exact .inl rfl | exact .inr rfl)) (ss_cons (sx_set W.ok hN (ge_p (se_bin (se_call_bi bi_min rfl (W.gn (by kernel_rfl)) (W.bi (by decide +kernel) (by kernel_rfl)) (sl_cons (se_var rfl) (sl_cons (se_var rfl) sl_nil))) (se_con_int rfl (W.gl (v := .int 2 349) (by kernel_rfl))))) rfl (by first | exact .inl rfl | exact .inr rfl)) (ss_cons (sx_set W.ok hN (ge_p (se_call_bi bi_min rfl (W.gn (by kernel_rfl)) (W.bi (by decide +kernel) (by kernel_rfl)) (sl_cons (se_var rfl) (sl_cons (se_var rfl) sl_nil)))) rfl (by first | exact .inl rfl | exact .inr rfl)) (ss_cons (sx_put W.ok (se_var rfl) (se_var rfl) rfl) (ss_cons (sx_if (gt_p (st_cmp (se_var rfl) (se_var rfl))) (ss_cons (sx_set W.ok hN (ge_p (se_var rfl)) rfl (by first | exact .inl rfl | exact .inr rfl)) ss_nil) ss_nil) ss_nil)))))) ss_nil (.inr fun _ _ => rfl)) (ss_cons (sx_if (gt_p (st_cmp (se_var rfl) (se_var rfl))) (ss_cons (sx_ret (ge_p (se_bin (se_var rfl) se_int))) ss_nil) ss_nil) ss_nil))))) ss_nil (.inr fun _ _ => rfl)) (ss_cons (sx_ret (ge_p (se_var rfl))) ss_nil)))))))))))))))))
end
end Mine
end

section
open PySem PySem.Calls PyProof.Rows PySem.W
set_option maxRecDepth 100000
namespace Mine
section
variable {w : World} {mg mb : Str → Option Value} {s : Shared} {n : Nat}
noncomputable def F_told : SF := (kSeq (kSet 1 (gP (mList (lStrs ["OPTIMIZED", "NEWLOCALS", "VARARGS", "VARKEYWORDS", "NESTED", "GENERATOR", "NOFREE", "COROUTINE"])))) (kSeq (kSet 2 (gMeth1 isStr (gCall G_pretty (glCons (gP (mCall sumD (lCons (mComp 3 [] (mVar 0) mAndT (mBin .LShift (mInt 1) (mVar 3))) lNil))) glNil)) splitD (lCons (mStr ", ") lNil))) (kSeq (kRet (gP (mComp 4 [1] (mVar 2) mAndT (mMeth isLst (mVar 1) indexD (lCons (mVar 4) lNil))))) kNil)))
noncomputable abbrev G_told : List DV → Air → Option (DV × Air) := fnOf 1 [] 4 F_told
theorem ok_told (W : W0 w mg mb s) : OK w mg mb s 148 (n + 4) G_told := by
  refine fn_ok (N := ["beats", "names", "words", "k", "word"]) (xs := ["beats"]) (ys := ["names", "words", "k", "word"]) (dv := []) (o := _) (fd := _) ⟨W.kk 148 _ rfl, rfl, ⟨(by decide : (148 : Nat) ≠ 62), (by decide : (148 : Nat) ≠ 69)⟩, rfl, rfl, rfl, rfl, rfl, ⟨147, _, _, _, rfl, W.kk 147 _ rfl, rfl, rfl, (by decide : (147 : Nat) ≠ 62), (by decide : (147 : Nat) ≠ 69)⟩, ?bind, rfl, fun _ _ _ => .nil, ?nofree, ?pars, ?nodup, rfl, rfl, rfl⟩ rfl ?body
  case bind =>
    intro s' vs _ hl
    obtain ⟨a0, rfl⟩ := len1 hl
    exact BindsTo.of_eq rfl
  case nofree => decide +kernel
  case pars => decide +kernel
  case nodup => decide +kernel
  case body =>
    unfold F_told
    have hN : (["beats", "names", "words", "k", "word"] : List Str).Nodup := by decide +kernel
    refine ss_cons ?h1 ?h2
    case h1 => generalize he : Expr.List _ _ = e; exact sx_set W.ok hN (ge_strs he.symm rfl) rfl (by first | exact .inl rfl | exact .inr rfl) (by subst he; intro _; rfl)
    refine  (ss_cons (sx_set W.ok hN (ge_meth1 gm_split bi_split (ge_call (ok_pretty W) rfl (W.gl (v := .ref 112) (by kernel_rfl)) (W.kk 112 _ rfl) rfl ⟨(by decide : (112 : Nat) ≠ 62), (by decide : (112 : Nat) ≠ 69)⟩ (gl_cons (ge_p (se_call_bi bi_sum rfl (W.gn (by kernel_rfl)) (W.bi (by decide +kernel) (by kernel_rfl)) (sl_cons (se_comp ⟨rfl, (by decide +kernel), (by decide +kernel), (by decide +kernel), rfl, rfl, (by decide +kernel)⟩ (se_var rfl) si_nil (se_bin se_int (se_var rfl))) sl_nil))) gl_nil)) (sl_cons se_str sl_nil)) rfl (by first | exact .inl rfl | exact .inr rfl)) (ss_cons (sx_ret (ge_p (se_comp ⟨rfl, (by decide +kernel), (by decide +kernel), (by decide +kernel), rfl, rfl, (by decide +kernel)⟩ (se_var rfl) si_nil (se_meth1 gm_index bi_index (se_var rfl) (sl_cons (se_var rfl) sl_nil))))) ss_nil))
noncomputable def F_varint : SF := (kSeq (kNext 1 0) (kSeq (kSet 2 (gP (mBin .BitAnd (mVar 1) (mInt 63)))) (kSeq (whGo (gPT (mTru (mBin .BitAnd (mVar 1) (mInt 64)))) (kSeq (kAug .LShift 2 (gP (mInt 6))) (kSeq (kNext 1 0) (kSeq (kAug .BitOr 2 (gP (mBin .BitAnd (mVar 1) (mInt 63)))) kNil))) 6) (kSeq (kRet (gP (mVar 2))) kNil))))
theorem it_varint (W : W0 w mg mb s) {sc : List (Str × NameKind)} {N : List Str} {np ip cp pos : Pos} {e : Expr} {f : List DV → Option DV} (hk : sc.lookup ("_parse_varint" : Str) = some .globalImplicit) (hik : sc.lookup ("iter" : Str) = some .globalImplicit) (hf : SE PR w (c0 mg mb s) sc N e f)
    (hst : ∀ env, starEach [e] env = (false, eval e env) :: starEach [] env := by intro _; rfl) :
    GE PR w (c0 mg mb s) sc N (n + 1) (.Call (.Name "_parse_varint" np) [.Call (.Name "iter" ip) [e] [] cp] [] pos) (gIt 2 F_varint f) := by
  refine ge_callIt (fa := 119) (N' := ["iterator", "b", "val"]) (y := "iterator") (ys := ["b", "val"]) (o := _) (fd := _) ⟨W.kk 119 _ rfl, rfl, ⟨(by decide : (119 : Nat) ≠ 62), (by decide : (119 : Nat) ≠ 69)⟩, rfl, rfl, rfl, rfl, rfl, ⟨118, _, _, _, rfl, W.kk 118 _ rfl, rfl, rfl, (by decide : (118 : Nat) ≠ 62), (by decide : (118 : Nat) ≠ 69)⟩, ?bind, rfl, fun _ _ _ => .nil, ?nofree, ?pars, ?nodup, rfl, rfl, rfl⟩ rfl ?body hk (W.gl (v := .ref 119) (by kernel_rfl)) hik (W.gn (by kernel_rfl)) (W.bi (by decide +kernel) (by kernel_rfl)) hf (by decide +kernel) (by decide +kernel) hst
  case bind =>
    intro s' vs _ hl
    obtain ⟨a0, rfl⟩ := len1 hl
    exact BindsTo.of_eq rfl
  case nofree => decide +kernel
  case pars => decide +kernel
  case nodup => decide +kernel
  case body =>
    unfold F_varint
    have hN : (["iterator", "b", "val"] : List Str).Nodup := by decide +kernel
    refine (ss_cons (sx_next W.ok hN rfl (by first | exact .inl rfl | exact .inr rfl) rfl rfl (W.gn (by kernel_rfl)) (W.bi (by decide +kernel) (by kernel_rfl))) (ss_cons (sx_set W.ok hN (ge_p (se_bin (se_var rfl) se_int)) rfl (by first | exact .inl rfl | exact .inr rfl)) (ss_cons (sx_while 6 (gt_p (st_tru (se_bin (se_var rfl) se_int))) (ss_cons (sx_aug W.ok hN (ge_p se_int) rfl (by first | exact .inl rfl | exact .inr rfl)) (ss_cons (sx_next W.ok hN rfl (by first | exact .inl rfl | exact .inr rfl) rfl rfl (W.gn (by kernel_rfl)) (W.bi (by decide +kernel) (by kernel_rfl))) (ss_cons (sx_aug W.ok hN (ge_p (se_bin (se_var rfl) se_int)) rfl (by first | exact .inl rfl | exact .inr rfl)) ss_nil)))) (ss_cons (sx_ret (ge_p (se_var rfl))) ss_nil))))
end
end Mine
end

section
open PySem PySem.Calls PyProof.Rows PySem.W
set_option maxRecDepth 100000
namespace Mine
section
variable {w : World} {mg mb : Str → Option Value} {s : Shared} {n : Nat}
noncomputable def B_ways_1 (R : List DV → Air → Option (DV × Air)) : SF := (kSeq (kExpr (gCall G_beat (glCons (gP (mVar 0)) (glCons (gP (mVar 7)) (glCons (gP (mVar 8)) glNil))))) (kSeq (kExt 6 (gCall R (glCons (gP (mVar 0)) (glCons (gP (mBin .Sub (mVar 1) (mInt 1))) (glCons (gP (mVar 2)) (glCons (gP (mBin .Add (mVar 3) (mList (lCons (mVar 8) lNil)))) glNil)))))) (kSeq (kExpr (gMethA G_popfrom (mVar 0) glNil)) kNil)))
noncomputable def B_ways_2 (R : List DV → Air → Option (DV × Air)) : SF := (kSeq (kExpr (gMethA G_push (mVar 0) (glCons (gP (mVar 9)) (glCons (gP (mVar 10)) glNil)))) kNil)
noncomputable def F_ways (R : List DV → Air → Option (DV × Air)) : SF := (kSeq (kSet 4 (gStr G_str (mVar 0))) (kSeq (kIf (gPT (mCmp .Eq (mVar 1) (mInt 0))) (kSeq (kRet (gList (glCons (gTup (glCons (gP (mVar 4)) (glCons (gMethA countF (mVar 0) glNil) (glCons (gLen G_len (mVar 0)) (glCons (gP (mVar 3)) glNil))))) glNil))) kNil) kNil) (kSeq (kSet 5 (gP (mList (lCons (mInt 0) lNil)))) (kSeq (kIf (gPT (mCmp .Eq (mSlice (mVar 4) pNo (pAt (mInt 1))) (mStr "o"))) (kSeq (kSet 5 (gP (mComp 11 [1, 2, 4] (mCall rangeD (lCons (mInt 1) (lCons (mBin .Add (mVar 1) (mInt 8)) lNil))) (mAnd (mCmp .NotEq (mSlice (mVar 4) (pAt (mVar 11)) (pAt (mBin .Add (mVar 11) (mInt 1)))) (mStr "o")) (mAnd (mOr (mCmp .Lt (mVar 11) (mVar 1)) (mOr (mCmp .In (mBin .Sub (mVar 11) (mVar 1)) (mVar 2)) mOrF)) mAndT)) (mVar 11)))) kNil) kNil) (kSeq (kOwn 6 (mList lNil)) (kSeq (kSet 7 (gMethA G_popfrom (mVar 0) glNil)) (kSeq (kFor (tName 8) (gP (mVar 5)) (B_ways_1 R) kNil) (kSeq (kFor (tTup 2 (tCons (tName 9) (tCons (tName 10) tNil))) (gLst (gP (mVar 7))) (B_ways_2 R) kNil) (fun σ => (kSeq (kRet (gP (mVar 6))) kNil) (frz σ))))))))))
noncomputable abbrev G_ways (R : List DV → Air → Option (DV × Air)) : List DV → Air → Option (DV × Air) := fnOf 4 [] 8 (F_ways R)
theorem ok_ways (W : W0 w mg mb s) {R : List DV → Air → Option (DV × Air)} (hR : OK w mg mb s 177 n R) : OK w mg mb s 177 (n + 12) (G_ways R) := by
  refine fn_ok (N := ["air", "left", "goal", "throws", "now", "heights", "ways", "pieces", "height", "blanks", "ball", "h"]) (xs := ["air", "left", "goal", "throws"]) (ys := ["now", "heights", "ways", "pieces", "height", "blanks", "ball", "h"]) (dv := []) (o := _) (fd := _) ⟨W.kk 177 _ rfl, rfl, ⟨(by decide : (177 : Nat) ≠ 62), (by decide : (177 : Nat) ≠ 69)⟩, rfl, rfl, rfl, rfl, rfl, ⟨176, _, _, _, rfl, W.kk 176 _ rfl, rfl, rfl, (by decide : (176 : Nat) ≠ 62), (by decide : (176 : Nat) ≠ 69)⟩, ?bind, rfl, fun _ _ _ => .nil, ?nofree, ?pars, ?nodup, rfl, rfl, rfl⟩ rfl ?body
  case bind =>
    intro s' vs _ hl
    obtain ⟨a0, a1, a2, a3, rfl⟩ := len4 hl
    exact BindsTo.of_eq rfl
  case nofree => decide +kernel
  case pars => decide +kernel
  case nodup => decide +kernel
  case body =>
    unfold F_ways B_ways_2 B_ways_1
    have hN : (["air", "left", "goal", "throws", "now", "heights", "ways", "pieces", "height", "blanks", "ball", "h"] : List Str).Nodup := by decide +kernel
    refine (ss_cons (sx_set W.ok hN (ge_str W.airK ⟨(by kernel_rfl), (by kernel_rfl)⟩ (fun _ _ => ok_str' W) (se_var rfl) rfl (W.gn (by kernel_rfl)) (W.bi (by decide +kernel) (by kernel_rfl))) rfl (by first | exact .inl rfl | exact .inr rfl)) (ss_cons (sx_if (gt_p (st_cmp (se_var rfl) se_int)) (ss_cons (sx_ret (ge_list (gl_cons (ge_tup (gl_cons (ge_p (se_var rfl)) (gl_cons (ge_methA (hev := hev0) W.airK ⟨(by kernel_rfl), (by kernel_rfl), W.kk 97 _ rfl, rfl, ⟨(by decide : (97 : Nat) ≠ 62), (by decide : (97 : Nat) ≠ 69)⟩, (by decide +kernel)⟩ (ok_count W) (se_var rfl) gl_nil) (gl_cons (ge_len W.airK ⟨(by kernel_rfl), (by kernel_rfl)⟩ (ok_len W) (se_var rfl) rfl (W.gn (by kernel_rfl)) (W.bi (by decide +kernel) (by kernel_rfl))) (gl_cons (ge_p (se_var rfl)) gl_nil))))) gl_nil))) ss_nil) ss_nil) (ss_cons (sx_set W.ok hN (ge_p (se_list (sl_cons se_int sl_nil))) rfl (by first | exact .inl rfl | exact .inr rfl)) (ss_cons (sx_if (gt_p (st_cmp (se_slice (se_var rfl) sp_no (sp_at se_int)) se_str)) (ss_cons (sx_comp W.ok hN rfl rfl ⟨rfl, (by decide +kernel), (by decide +kernel), (by decide +kernel), rfl, rfl, (by decide +kernel)⟩ (se_call_ty bi_range rfl (W.gn (by kernel_rfl)) (W.bi (by decide +kernel) (by kernel_rfl)) (sl_cons se_int (sl_cons (se_bin (se_var rfl) se_int) sl_nil))) (si_one (st_bool (sa_and (st_cmp (se_slice (se_var rfl) (sp_at (se_var rfl)) (sp_at (se_bin (se_var rfl) se_int))) se_str) (sa_and (st_bool (sa_or (st_cmp (se_var rfl) (se_var rfl)) (sa_or (st_cmp (se_bin (se_var rfl) (se_var rfl)) (se_var rfl)) sa_or_nil))) sa_and_nil)))) (se_var rfl) (hsw_ok (by kernel_rfl) rfl rfl)) ss_nil) ss_nil) (ss_cons (sx_own W.ok hN (se_list sl_nil) rfl (by first | exact .inl rfl | exact .inr rfl)) (ss_cons (sx_set W.ok hN (ge_methA (hev := hev0) W.airK ⟨(by kernel_rfl), (by kernel_rfl), W.kk 53 _ rfl, rfl, ⟨(by decide : (53 : Nat) ≠ 62), (by decide : (53 : Nat) ≠ 69)⟩, (by decide +kernel)⟩ (ok_popfrom W) (se_var rfl) gl_nil) rfl (by first | exact .inl rfl | exact .inr rfl)) (ss_cons (sx_for W.ok (ge_p (se_var rfl)) (tg_name W.ok hN rfl (by first | exact .inl rfl | exact .inr rfl)) (ss_cons (sx_expr (ge_call (ok_beat W) rfl (W.gl (v := .ref 172) (by kernel_rfl)) (W.kk 172 _ rfl) rfl ⟨(by decide : (172 : Nat) ≠ 62), (by decide : (172 : Nat) ≠ 69)⟩ (gl_cons (ge_p (se_var rfl)) (gl_cons (ge_p (se_var rfl)) (gl_cons (ge_p (se_var rfl)) gl_nil))))) (ss_cons (sx_ext W.ok (ge_call (hR.le (by lia)) rfl (W.gl (v := .ref 177) (by kernel_rfl)) (W.kk 177 _ rfl) rfl ⟨(by decide : (177 : Nat) ≠ 62), (by decide : (177 : Nat) ≠ 69)⟩ (gl_cons (ge_p (se_var rfl)) (gl_cons (ge_p (se_bin (se_var rfl) se_int)) (gl_cons (ge_p (se_var rfl)) (gl_cons (ge_p (se_bin (se_var rfl) (se_list (sl_cons (se_var rfl) sl_nil)))) gl_nil))))) rfl) (ss_cons (sx_expr (ge_methA (hev := hev0) W.airK ⟨(by kernel_rfl), (by kernel_rfl), W.kk 53 _ rfl, rfl, ⟨(by decide : (53 : Nat) ≠ 62), (by decide : (53 : Nat) ≠ 69)⟩, (by decide +kernel)⟩ (ok_popfrom W) (se_var rfl) gl_nil)) ss_nil))) ss_nil (.inr fun _ _ => rfl)) (ss_cons (sx_for W.ok (ge_lst (ge_p (se_var rfl))) (tg_tup (tgl_cons (tg_name W.ok hN rfl (by first | exact .inl rfl | exact .inr rfl)) (tgl_cons (tg_name W.ok hN rfl (by first | exact .inl rfl | exact .inr rfl)) tgl_nil))) (ss_cons (sx_expr (ge_methA (hev := hev1) W.airK ⟨(by kernel_rfl), (by kernel_rfl), W.kk 45 _ rfl, rfl, ⟨(by decide : (45 : Nat) ≠ 62), (by decide : (45 : Nat) ≠ 69)⟩, (by decide +kernel)⟩ (ok_push W) (se_var rfl) (gl_cons (ge_p (se_var rfl)) (gl_cons (ge_p (se_var rfl)) gl_nil)))) ss_nil) ss_nil (.inl gLst_is)) (ss_frz (ss_cons (sx_ret (ge_p (se_var rfl))) ss_nil))))))))))
noncomputable def R_ways : Nat → (List DV → Air → Option (DV × Air))
  | 0 => fun _ _ => none
  | k + 1 => G_ways (R_ways k)
theorem ok_waysK (W : W0 w mg mb s) : ∀ k, OK w mg mb s 177 (12 * k) (R_ways k)
  | 0 => fun _ _ _ _ _ _ _ _ _ _ _ _ h => by cases h
  | k + 1 => by
    have := ok_ways W (ok_waysK W k)
    exact this
end
section
variable {prog : Program} {w : World} {c : Cfg} {n : Nat}
noncomputable def gDrop (F : List DV → Air → Option (DV × Air)) : List DV → Air → Option (DV × Air) := fun ds α => match α with
  | none => (F ds none).bind fun p => match p.1 with
    | .bool b => some (.bool b, none)
    | _ => none
  | some _ => none
theorem ok_drop {f : Addr} {F : List DV → Air → Option (DV × Air)} (hF : FnOK prog w c f n F) : FnOK prog w c f n (gDrop F) := by
  intro A s X aA α vs ds d α' hA g r hd Q E h
  unfold gDrop at hd
  split at hd
  · obtain ⟨⟨e, β⟩, he, hd⟩ := obind hd
    have ha : aA = none := by
      have := g.air
      unfold AirOK at this
      cases aA with
      | none => rfl
      | some a => exact this.elim
    split at hd
    · rename_i b hb
      cases hd
      dsimp only at hb
      subst hb
      refine hF A s X aA none vs ds _ β hA g r he Q E fun v s' aA' X' rv st g' => ?_
      subst ha
      have hX' : ∀ b, MutP c none b → X' b := fun b hb => by
        rcases hb with q | q | q
        · exact g'.mx b (.inl q)
        · exact g'.mx b (.inr (.inl q))
        · cases q
      refine h v s' none X' ?_ ⟨st.keep, st.there, st.sub, st.new, .inl rfl⟩ ⟨g'.inv, g'.xb, trivial, hX'⟩
      cases rv using Rel.boolC
      exact .bool _
    · cases hd
  · cases hd
end
end Mine
end

section
open PySem PySem.Calls PyProof.Rows PySem.W
set_option maxRecDepth 100000
namespace Mine
section
variable {w : World} {mg mb : Str → Option Value} {s : Shared} {n : Nat}
noncomputable def B_holds_1 : SF := (kSeq (kIf (gPT (mCmp .Eq (mVar 11) (mVar 7))) (kSeq (kIf (gPT (mOr (mCmp .NotEq (mVar 12) (mCall lenD (lCons (mVar 0) lNil))) (mOr (mCmp .NotEq (mVar 13) (mBin .Add (mInt 2) (mCall lenD (lCons (mVar 7) lNil)))) mOrF))) (kSeq (kRet (gP (mBool false))) kNil) kNil) (kSeq (kSet 15 (gP (mBin .Add (mComp 18 [] (mSlice (mVar 14) pNo (pAt (mNeg (mInt 1)))) mAndT (mBin .Add (mInt 64) (mVar 18))) (mSlice (mVar 14) (pAt (mNeg (mInt 1))) pNo)))) (kSeq (kPush 10 (gIt 2 F_varint (mVar 15))) kNil))) kNil) kNil)
noncomputable def F_holds : SF := (kSeq (kSet 3 (gP (mComp 16 [2] (mVar 0) (mCmp .GtE (mVar 16) (mVar 2)) (mBin .Sub (mVar 16) (mVar 2))))) (kSeq (kSet 4 (gP (mBin .Sub (mCall lenD (lCons (mVar 0) lNil)) (mCall lenD (lCons (mVar 3) lNil))))) (kSeq (kSet 5 (gP (mCall lenD (lCons (mComp 16 [1] (mVar 3) (mCmp .NotIn (mVar 16) (mVar 1)) (mVar 16)) lNil)))) (kSeq (kSet 6 (gCall G_lev (glCons (gCall G_letters (glCons (gP (mVar 3)) glNil)) (glCons (gCall G_letters (glCons (gP (mVar 1)) glNil)) (glCons (gP (mInt 99)) glNil))))) (kSeq (kIf (gPT (mCmp .NotEq (mVar 6) (mBin .Add (mVar 4) (mBin .Mult (mInt 2) (mVar 5))))) (kSeq (kRet (gP (mBool false))) kNil) kNil) (kSeq (kSet 7 (gCall G_row (glCons (gP (mVar 1)) glNil))) (kSeq (kSet 8 (gP (mBin .Sub (mBin .Add (mCall sumD (lCons (mVar 1) lNil)) (mBin .Mult (mVar 2) (mCall lenD (lCons (mVar 1) lNil)))) (mCall sumD (lCons (mVar 0) lNil))))) (kSeq (kSet 9 (gCall G_air (glCons (gCall G_told (glCons (gP (mVar 0)) glNil)) glNil))) (kSeq (kOwn 10 (mList lNil)) (kSeq (kFor (tTup 4 (tCons (tName 11) (tCons (tName 12) (tCons (tName 13) (tCons (tName 14) tNil))))) (gLst (gCall (R_ways 6) (glCons (gP (mVar 9)) (glCons (gP (mVar 2)) (glCons (gCall G_told (glCons (gP (mVar 1)) glNil)) (glCons (gP (mList lNil)) glNil)))))) B_holds_1 kNil) (fun σ => (kSeq (kIf (gCmp .NotEq (gP (mCall lenD (lCons (mVar 10) lNil))) (gIf (gPT (mCmp .Eq (mVar 6) (mVar 4))) (gCall G_product (glCons (gP (mVar 0)) (glCons (gP (mVar 2)) glNil))) (gP (mInt 0)))) (kSeq (kRet (gP (mBool false))) kNil) kNil) (kSeq (kIf (gPT (gNe (mComp 17 [8] (mVar 10) (mCmp .NotEq (mBin .Mod (mVar 17) (mInt 63)) (mVar 8)) (mVar 17)))) (kSeq (kRet (gP (mBool false))) kNil) kNil) (kSeq (kIf (gPT (gNe (mComp 16 [10] (mCall rangeD (lCons (mInt 1) (lCons (mCall lenD (lCons (mVar 10) lNil)) lNil))) (mCmp .GtE (mIdx (mVar 10) (mBin .Sub (mVar 16) (mInt 1))) (mIdx (mVar 10) (mVar 16))) (mVar 16)))) (kSeq (kRet (gP (mBool false))) kNil) kNil) (kSeq (kRet (gCmpV .Eq (gStr G_str (mVar 9)) (gCall G_row (glCons (gP (mVar 0)) glNil)))) kNil)))) (frz σ))))))))))))
noncomputable abbrev G_holds : List DV → Air → Option (DV × Air) := fnOf 3 [] 16 F_holds
theorem ok_holds (W : W0 w mg mb s) : OK w mg mb s 189 (n + 200) G_holds := by
  refine fn_ok (N := ["start", "goal", "played", "up", "down", "strays", "far", "row", "total", "air", "numbers", "now", "balls", "size", "throws", "octets", "k", "number", "height"]) (xs := ["start", "goal", "played"]) (ys := ["up", "down", "strays", "far", "row", "total", "air", "numbers", "now", "balls", "size", "throws", "octets", "k", "number", "height"]) (dv := []) (o := _) (fd := _) ⟨W.kk 189 _ rfl, rfl, ⟨(by decide : (189 : Nat) ≠ 62), (by decide : (189 : Nat) ≠ 69)⟩, rfl, rfl, rfl, rfl, rfl, ⟨188, _, _, _, rfl, W.kk 188 _ rfl, rfl, rfl, (by decide : (188 : Nat) ≠ 62), (by decide : (188 : Nat) ≠ 69)⟩, ?bind, rfl, fun _ _ _ => .nil, ?nofree, ?pars, ?nodup, rfl, rfl, rfl⟩ rfl ?body
  case bind =>
    intro s' vs _ hl
    obtain ⟨a0, a1, a2, rfl⟩ := len3 hl
    exact BindsTo.of_eq rfl
  case nofree => decide +kernel
  case pars => decide +kernel
  case nodup => decide +kernel
  case body =>
    unfold F_holds B_holds_1
    have hN : (["start", "goal", "played", "up", "down", "strays", "far", "row", "total", "air", "numbers", "now", "balls", "size", "throws", "octets", "k", "number", "height"] : List Str).Nodup := by decide +kernel
    refine (ss_cons (sx_comp W.ok hN rfl rfl ⟨rfl, (by decide +kernel), (by decide +kernel), (by decide +kernel), rfl, rfl, (by decide +kernel)⟩ (se_var rfl) (si_one (st_cmp (se_var rfl) (se_var rfl))) (se_bin (se_var rfl) (se_var rfl)) (hsw_ok (by kernel_rfl) rfl rfl)) (ss_cons (sx_set W.ok hN (ge_p (se_bin (se_call_bi bi_len rfl (W.gn (by kernel_rfl)) (W.bi (by decide +kernel) (by kernel_rfl)) (sl_cons (se_var rfl) sl_nil)) (se_call_bi bi_len rfl (W.gn (by kernel_rfl)) (W.bi (by decide +kernel) (by kernel_rfl)) (sl_cons (se_var rfl) sl_nil)))) rfl (by first | exact .inl rfl | exact .inr rfl)) (ss_cons (sx_set W.ok hN (ge_p (se_call_bi bi_len rfl (W.gn (by kernel_rfl)) (W.bi (by decide +kernel) (by kernel_rfl)) (sl_cons (se_comp ⟨rfl, (by decide +kernel), (by decide +kernel), (by decide +kernel), rfl, rfl, (by decide +kernel)⟩ (se_var rfl) (si_one (st_cmp (se_var rfl) (se_var rfl))) (se_var rfl)) sl_nil))) rfl (by first | exact .inl rfl | exact .inr rfl)) (ss_cons (sx_set W.ok hN (ge_call (ok_lev W) rfl (W.gl (v := .ref 133) (by kernel_rfl)) (W.kk 133 _ rfl) rfl ⟨(by decide : (133 : Nat) ≠ 62), (by decide : (133 : Nat) ≠ 69)⟩ (gl_cons (ge_call (ok_letters W) rfl (W.gl (v := .ref 165) (by kernel_rfl)) (W.kk 165 _ rfl) rfl ⟨(by decide : (165 : Nat) ≠ 62), (by decide : (165 : Nat) ≠ 69)⟩ (gl_cons (ge_p (se_var rfl)) gl_nil)) (gl_cons (ge_call (ok_letters W) rfl (W.gl (v := .ref 165) (by kernel_rfl)) (W.kk 165 _ rfl) rfl ⟨(by decide : (165 : Nat) ≠ 62), (by decide : (165 : Nat) ≠ 69)⟩ (gl_cons (ge_p (se_var rfl)) gl_nil)) (gl_cons (ge_p se_int) gl_nil)))) rfl (by first | exact .inl rfl | exact .inr rfl)) (ss_cons (sx_if (gt_p (st_cmp (se_var rfl) (se_bin (se_var rfl) (se_bin se_int (se_var rfl))))) (ss_cons (sx_ret (ge_p se_bool)) ss_nil) ss_nil) (ss_cons (sx_set W.ok hN (ge_call (ok_row W) rfl (W.gl (v := .ref 160) (by kernel_rfl)) (W.kk 160 _ rfl) rfl ⟨(by decide : (160 : Nat) ≠ 62), (by decide : (160 : Nat) ≠ 69)⟩ (gl_cons (ge_p (se_var rfl)) gl_nil)) rfl (by first | exact .inl rfl | exact .inr rfl)) (ss_cons (sx_set W.ok hN (ge_p (se_bin (se_bin (se_call_bi bi_sum rfl (W.gn (by kernel_rfl)) (W.bi (by decide +kernel) (by kernel_rfl)) (sl_cons (se_var rfl) sl_nil)) (se_bin (se_var rfl) (se_call_bi bi_len rfl (W.gn (by kernel_rfl)) (W.bi (by decide +kernel) (by kernel_rfl)) (sl_cons (se_var rfl) sl_nil)))) (se_call_bi bi_sum rfl (W.gn (by kernel_rfl)) (W.bi (by decide +kernel) (by kernel_rfl)) (sl_cons (se_var rfl) sl_nil)))) rfl (by first | exact .inl rfl | exact .inr rfl)) (ss_cons (sx_set W.ok hN (ge_call (ok_air W) rfl (W.gl (v := .ref 155) (by kernel_rfl)) (W.kk 155 _ rfl) rfl ⟨(by decide : (155 : Nat) ≠ 62), (by decide : (155 : Nat) ≠ 69)⟩ (gl_cons (ge_call (ok_told W) rfl (W.gl (v := .ref 148) (by kernel_rfl)) (W.kk 148 _ rfl) rfl ⟨(by decide : (148 : Nat) ≠ 62), (by decide : (148 : Nat) ≠ 69)⟩ (gl_cons (ge_p (se_var rfl)) gl_nil)) gl_nil)) rfl (by first | exact .inl rfl | exact .inr rfl)) (ss_cons (sx_own W.ok hN (se_list sl_nil) rfl (by first | exact .inl rfl | exact .inr rfl)) (ss_cons (sx_for W.ok (ge_lst (ge_call ((ok_waysK W 6).le (by lia)) rfl (W.gl (v := .ref 177) (by kernel_rfl)) (W.kk 177 _ rfl) rfl ⟨(by decide : (177 : Nat) ≠ 62), (by decide : (177 : Nat) ≠ 69)⟩ (gl_cons (ge_p (se_var rfl)) (gl_cons (ge_p (se_var rfl)) (gl_cons (ge_call (ok_told W) rfl (W.gl (v := .ref 148) (by kernel_rfl)) (W.kk 148 _ rfl) rfl ⟨(by decide : (148 : Nat) ≠ 62), (by decide : (148 : Nat) ≠ 69)⟩ (gl_cons (ge_p (se_var rfl)) gl_nil)) (gl_cons (ge_p (se_list sl_nil)) gl_nil)))))) (tg_tup (tgl_cons (tg_name W.ok hN rfl (by first | exact .inl rfl | exact .inr rfl)) (tgl_cons (tg_name W.ok hN rfl (by first | exact .inl rfl | exact .inr rfl)) (tgl_cons (tg_name W.ok hN rfl (by first | exact .inl rfl | exact .inr rfl)) (tgl_cons (tg_name W.ok hN rfl (by first | exact .inl rfl | exact .inr rfl)) tgl_nil))))) (ss_cons (sx_if (gt_p (st_cmp (se_var rfl) (se_var rfl))) (ss_cons (sx_if (gt_p (st_bool (sa_or (st_cmp (se_var rfl) (se_call_bi bi_len rfl (W.gn (by kernel_rfl)) (W.bi (by decide +kernel) (by kernel_rfl)) (sl_cons (se_var rfl) sl_nil))) (sa_or (st_cmp (se_var rfl) (se_bin se_int (se_call_bi bi_len rfl (W.gn (by kernel_rfl)) (W.bi (by decide +kernel) (by kernel_rfl)) (sl_cons (se_var rfl) sl_nil)))) sa_or_nil)))) (ss_cons (sx_ret (ge_p se_bool)) ss_nil) ss_nil) (ss_cons (sx_set W.ok hN (ge_p (se_bin (se_comp ⟨rfl, (by decide +kernel), (by decide +kernel), (by decide +kernel), rfl, rfl, (by decide +kernel)⟩ (se_slice (se_var rfl) sp_no (sp_at (se_neg se_int))) si_nil (se_bin se_int (se_var rfl))) (se_slice (se_var rfl) (sp_at (se_neg se_int)) sp_no))) rfl (by first | exact .inl rfl | exact .inr rfl)) (ss_cons (sx_push W.ok (it_varint W rfl rfl (se_var rfl)) rfl) ss_nil))) ss_nil) ss_nil) ss_nil (.inl gLst_is)) (ss_frz (ss_cons (sx_if (gt_cmp (ge_p (se_call_bi bi_len rfl (W.gn (by kernel_rfl)) (W.bi (by decide +kernel) (by kernel_rfl)) (sl_cons (se_var rfl) sl_nil))) (ge_ife (gt_p (st_cmp (se_var rfl) (se_var rfl))) (ge_call (ok_product W) rfl (W.gl (v := .ref 184) (by kernel_rfl)) (W.kk 184 _ rfl) rfl ⟨(by decide : (184 : Nat) ≠ 62), (by decide : (184 : Nat) ≠ 69)⟩ (gl_cons (ge_p (se_var rfl)) (gl_cons (ge_p (se_var rfl)) gl_nil))) (ge_p se_int))) (ss_cons (sx_ret (ge_p se_bool)) ss_nil) ss_nil) (ss_cons (sx_if (gt_ne (se_comp ⟨rfl, (by decide +kernel), (by decide +kernel), (by decide +kernel), rfl, rfl, (by decide +kernel)⟩ (se_var rfl) (si_one (st_cmp (se_bin (se_var rfl) se_int) (se_var rfl))) (se_var rfl))) (ss_cons (sx_ret (ge_p se_bool)) ss_nil) ss_nil) (ss_cons (sx_if (gt_ne (se_comp ⟨rfl, (by decide +kernel), (by decide +kernel), (by decide +kernel), rfl, rfl, (by decide +kernel)⟩ (se_call_ty bi_range rfl (W.gn (by kernel_rfl)) (W.bi (by decide +kernel) (by kernel_rfl)) (sl_cons se_int (sl_cons (se_call_bi bi_len rfl (W.gn (by kernel_rfl)) (W.bi (by decide +kernel) (by kernel_rfl)) (sl_cons (se_var rfl) sl_nil)) sl_nil))) (si_one (st_cmp (se_idx (se_var rfl) (se_bin (se_var rfl) se_int)) (se_idx (se_var rfl) (se_var rfl)))) (se_var rfl))) (ss_cons (sx_ret (ge_p se_bool)) ss_nil) ss_nil) (ss_cons (sx_ret (ge_cmp (ge_str W.airK ⟨(by kernel_rfl), (by kernel_rfl)⟩ (fun _ _ => ok_str' W) (se_var rfl) rfl (W.gn (by kernel_rfl)) (W.bi (by decide +kernel) (by kernel_rfl))) (ge_call (ok_row W) rfl (W.gl (v := .ref 160) (by kernel_rfl)) (W.kk 160 _ rfl) rfl ⟨(by decide : (160 : Nat) ≠ 62), (by decide : (160 : Nat) ≠ 69)⟩ (gl_cons (ge_p (se_var rfl)) gl_nil)))) ss_nil)))))))))))))))
end
end Mine
end

section
open PySem PySem.Calls PyProof.Rows PySem.W
set_option maxRecDepth 100000
namespace Mine
section
variable {w : World} {mg mb : Str → Option Value} {s : Shared} {n : Nat}
noncomputable def F_law : SF := (kSeq (kSet 1 (gCall G_draws (glCons (gP (mVar 0)) glNil))) (kSeq (kSet 2 (gP (mBin .Add (mBin .Mod (mIdx (mVar 1) (mInt 0)) (mInt 3)) (mInt 2)))) (kSeq (kSet 3 (gP (mBin .Add (mBin .Mod (mIdx (mVar 1) (mInt 1)) (mInt 2)) (mInt 3)))) (kSeq (kSet 4 (gP (mBin .Add (mBin .Mod (mBin .FloorDiv (mIdx (mVar 1) (mInt 1)) (mInt 2)) (mInt 2)) (mInt 1)))) (kSeq (kSet 5 (gCall G_state (glCons (gP (mList lNil)) (glCons (gP (mVar 2)) (glCons (gP (mSlice (mVar 1) (pAt (mInt 2)) (pAt (mInt 6)))) glNil))))) (kSeq (kSet 6 (gCall G_state (glCons (gP (mComp 8 [3] (mVar 5) (mCmp .GtE (mVar 8) (mVar 3)) (mBin .Sub (mVar 8) (mVar 3)))) (glCons (gP (mVar 2)) (glCons (gP (mSlice (mVar 1) (pAt (mInt 6)) (pAt (mInt 10)))) glNil))))) (kSeq (kSet 7 (gCall G_state (glCons (gP (mList lNil)) (glCons (gP (mVar 2)) (glCons (gP (mSlice (mVar 1) (pAt (mInt 10)) (pAt (mInt 14)))) glNil))))) (kSeq (kRet (gAnd (gCall (gDrop G_holds) (glCons (gP (mVar 5)) (glCons (gP (mVar 6)) (glCons (gP (mVar 3)) glNil)))) (gCall (gDrop G_holds) (glCons (gP (mVar 5)) (glCons (gP (mVar 7)) (glCons (gP (mVar 4)) glNil)))))) kNil))))))))
noncomputable abbrev G_law : List DV → Air → Option (DV × Air) := fnOf 1 [] 8 F_law
theorem ok_law (W : W0 w mg mb s) : OK w mg mb s 194 (n + 250) G_law := by
  refine fn_ok (N := ["script", "draws", "balls", "many", "few", "start", "first", "second", "k"]) (xs := ["script"]) (ys := ["draws", "balls", "many", "few", "start", "first", "second", "k"]) (dv := []) (o := _) (fd := _) ⟨W.kk 194 _ rfl, rfl, ⟨(by decide : (194 : Nat) ≠ 62), (by decide : (194 : Nat) ≠ 69)⟩, rfl, rfl, rfl, rfl, rfl, ⟨193, _, _, _, rfl, W.kk 193 _ rfl, rfl, rfl, (by decide : (193 : Nat) ≠ 62), (by decide : (193 : Nat) ≠ 69)⟩, ?bind, rfl, fun _ _ _ => .nil, ?nofree, ?pars, ?nodup, rfl, rfl, rfl⟩ rfl ?body
  case bind =>
    intro s' vs _ hl
    obtain ⟨a0, rfl⟩ := len1 hl
    exact BindsTo.of_eq rfl
  case nofree => decide +kernel
  case pars => decide +kernel
  case nodup => decide +kernel
  case body =>
    unfold F_law
    have hN : (["script", "draws", "balls", "many", "few", "start", "first", "second", "k"] : List Str).Nodup := by decide +kernel
    refine (ss_cons (sx_set W.ok hN (ge_call (ok_draws W) rfl (W.gl (v := .ref 138) (by kernel_rfl)) (W.kk 138 _ rfl) rfl ⟨(by decide : (138 : Nat) ≠ 62), (by decide : (138 : Nat) ≠ 69)⟩ (gl_cons (ge_p (se_var rfl)) gl_nil)) rfl (by first | exact .inl rfl | exact .inr rfl)) (ss_cons (sx_set W.ok hN (ge_p (se_bin (se_bin (se_idx (se_var rfl) se_int) se_int) se_int)) rfl (by first | exact .inl rfl | exact .inr rfl)) (ss_cons (sx_set W.ok hN (ge_p (se_bin (se_bin (se_idx (se_var rfl) se_int) se_int) se_int)) rfl (by first | exact .inl rfl | exact .inr rfl)) (ss_cons (sx_set W.ok hN (ge_p (se_bin (se_bin (se_bin (se_idx (se_var rfl) se_int) se_int) se_int) se_int)) rfl (by first | exact .inl rfl | exact .inr rfl)) (ss_cons (sx_set W.ok hN (ge_call (ok_state W) rfl (W.gl (v := .ref 143) (by kernel_rfl)) (W.kk 143 _ rfl) rfl ⟨(by decide : (143 : Nat) ≠ 62), (by decide : (143 : Nat) ≠ 69)⟩ (gl_cons (ge_p (se_list sl_nil)) (gl_cons (ge_p (se_var rfl)) (gl_cons (ge_p (se_slice (se_var rfl) (sp_at se_int) (sp_at se_int))) gl_nil)))) rfl (by first | exact .inl rfl | exact .inr rfl)) (ss_cons (sx_set W.ok hN (ge_call (ok_state W) rfl (W.gl (v := .ref 143) (by kernel_rfl)) (W.kk 143 _ rfl) rfl ⟨(by decide : (143 : Nat) ≠ 62), (by decide : (143 : Nat) ≠ 69)⟩ (gl_cons (ge_p (se_comp ⟨rfl, (by decide +kernel), (by decide +kernel), (by decide +kernel), rfl, rfl, (by decide +kernel)⟩ (se_var rfl) (si_one (st_cmp (se_var rfl) (se_var rfl))) (se_bin (se_var rfl) (se_var rfl)))) (gl_cons (ge_p (se_var rfl)) (gl_cons (ge_p (se_slice (se_var rfl) (sp_at se_int) (sp_at se_int))) gl_nil)))) rfl (by first | exact .inl rfl | exact .inr rfl)) (ss_cons (sx_set W.ok hN (ge_call (ok_state W) rfl (W.gl (v := .ref 143) (by kernel_rfl)) (W.kk 143 _ rfl) rfl ⟨(by decide : (143 : Nat) ≠ 62), (by decide : (143 : Nat) ≠ 69)⟩ (gl_cons (ge_p (se_list sl_nil)) (gl_cons (ge_p (se_var rfl)) (gl_cons (ge_p (se_slice (se_var rfl) (sp_at se_int) (sp_at se_int))) gl_nil)))) rfl (by first | exact .inl rfl | exact .inr rfl)) (ss_cons (sx_ret (ge_and (ge_call (ok_drop (ok_holds W)) rfl (W.gl (v := .ref 189) (by kernel_rfl)) (W.kk 189 _ rfl) rfl ⟨(by decide : (189 : Nat) ≠ 62), (by decide : (189 : Nat) ≠ 69)⟩ (gl_cons (ge_p (se_var rfl)) (gl_cons (ge_p (se_var rfl)) (gl_cons (ge_p (se_var rfl)) gl_nil)))) (ge_call (ok_drop (ok_holds W)) rfl (W.gl (v := .ref 189) (by kernel_rfl)) (W.kk 189 _ rfl) rfl ⟨(by decide : (189 : Nat) ≠ 62), (by decide : (189 : Nat) ≠ 69)⟩ (gl_cons (ge_p (se_var rfl)) (gl_cons (ge_p (se_var rfl)) (gl_cons (ge_p (se_var rfl)) gl_nil)))))) ss_nil))))))))
end
end Mine
end

section
open PySem PySem.Calls PyProof.Rows PySem.W
set_option maxRecDepth 100000
namespace Mine
noncomputable def toL (x : Str) : List Nat := x.cps.toList
noncomputable def ofL (l : List Nat) : Str := ⟨l.toArray⟩
theorem toL_ofL (l : List Nat) : toL (ofL l) = l := rfl
theorem ofL_toL (x : Str) : ofL (toL x) = x := by cases x; rfl
theorem len_ofL (l : List Nat) : (ofL l).length = l.length := by simp [ofL, Str.length]
theorem ofL_inj {a b : List Nat} : ofL a = ofL b ↔ a = b := ⟨fun h => by have := congrArg toL h; simpa [toL_ofL] using this, fun h => by rw [h]⟩
theorem beq_ofL (a b : List Nat) : (ofL a == ofL b) = decide (a = b) := by
  rw [Bool.eq_iff_iff]; simp [ofL_inj]
theorem sliceRange_nat (a b : Nat) : sliceRange (a : Int) (b : Int) 1 = (List.range (b - a)).map (a + ·) := by
  unfold sliceRange
  by_cases h : a < b
  · have h1 : (a : Int) < (b : Int) := by lia
    have h2 : ((if (1 : Int) > 0 then (if (a : Int) < (b : Int) then ((b : Int) - a + 1 - 1) / 1 else 0) else (if (a : Int) > b then ((a : Int) - b - 1 - 1) / (-1) else 0) : Int)).toNat = b - a := by
      simp [h1]
    show ((List.range (if (1 : Int) > 0 then (if (a : Int) < (b : Int) then ((b : Int) - a + 1 - 1) / 1 else 0) else (if (a : Int) > b then ((a : Int) - b - 1 - 1) / (-1) else 0) : Int).toNat).map fun (k : Nat) => ((a : Int) + 1 * (k : Int)).toNat) = _
    rw [h2]
    refine List.map_congr_left fun k _ => ?_
    lia
  · have h1 : ¬ (a : Int) < (b : Int) := by lia
    have h3 : b - a = 0 := by lia
    simp [h1, h3]
theorem filterMap_range {α : Type} (xs : List α) (a b : Nat) (hb : b ≤ xs.length) : ((List.range (b - a)).map (a + ·)).filterMap (xs[·]?) = (xs.drop a).take (b - a) := by
  apply List.ext_getElem?
  intro i
  rw [List.filterMap_map]
  have : ∀ (m : Nat), a + m ≤ xs.length → (List.range m).filterMap ((fun x => xs[x]?) ∘ (a + ·)) = (xs.drop a).take m := by
    intro m
    induction m with
    | zero => intro _; simp
    | succ m ih =>
      intro h
      rw [List.range_succ, List.filterMap_append, ih (by lia)]
      have hm : a + m < xs.length := by lia
      rw [List.take_add_one, List.getElem?_drop]
      simp [List.getElem?_eq_getElem hm]
  by_cases h : a ≤ b
  · rw [this (b - a) (by lia)]
  · have h0 : b - a = 0 := by lia
    rw [h0]; simp
noncomputable def clipN (v : Option Int) (d n : Nat) : Nat := match v with
  | none => d
  | some i => (max 0 (min (if i < 0 then i + (n : Int) else i) (n : Int))).toNat
theorem clipN_nat {k d n : Nat} : clipN (some (k : Int)) d n = min k n := clipAt_nat n k
theorem clipN_neg {k d n : Nat} (hk : 1 ≤ k) : clipN (some (-(k : Int))) d n = n - k := clipAt_neg n k hk
theorem clipN_is {v : Option Int} {d n : Nat} : clipN v d n = v.elim d (clipAt n) := by cases v <;> rfl
theorem clipN_le {v : Option Int} {d n : Nat} (h : d ≤ n) : clipN v d n ≤ n := by
  unfold clipN; split
  · exact h
  · omega
theorem pick_eq {α : Type} (xs : List α) (lo hi : Option Int) : pick xs lo hi = (xs.drop (clipN lo 0 xs.length)).take (clipN hi xs.length xs.length - clipN lo 0 xs.length) := by
  unfold pick pickIdx
  have h1 : (sliceBounds lo hi none xs.length).1 = (clipN lo 0 xs.length : Int) := by
    rw [sliceBounds_plain, clipN_is]
  have h2 : (sliceBounds lo hi none xs.length).2.1 = (clipN hi xs.length xs.length : Int) := by
    rw [sliceBounds_plain, clipN_is]
  rw [h1, h2, sliceRange_nat, filterMap_range _ _ _ (clipN_le (Nat.le_refl _))]
theorem slice_eq (x : List Nat) (lo hi : Option Int) : Txt.slice (ofL x) lo hi = ofL ((x.drop (clipN lo 0 x.length)).take (clipN hi x.length x.length - clipN lo 0 x.length)) := by
  have hl : (ofL x).length = x.length := len_ofL x
  have h1 : Builtin.Str.strSliceIndices lo hi 1 x.length = (List.range (clipN hi x.length x.length - clipN lo 0 x.length)).map (clipN lo 0 x.length + ·) := by
    rw [← sliceRange_nat]
    unfold Builtin.Str.strSliceIndices clipN
    cases lo <;> cases hi <;> simp <;> congr 1 <;> omega
  unfold Txt.slice
  rw [hl, h1]
  have h2 := filterMap_range x (clipN lo 0 x.length) (clipN hi x.length x.length) (clipN_le (Nat.le_refl _))
  have h3 : ∀ l : List Nat, l.filterMap ((ofL x).cps[·]?) = l.filterMap (x[·]?) := fun l => by simp [ofL]
  rw [h3, h2]
  split
  · rename_i h
    have h4 : clipN hi x.length x.length - clipN lo 0 x.length = x.length := by simpa using h
    have h5 : clipN hi x.length x.length ≤ x.length := clipN_le (Nat.le_refl _)
    by_cases h6 : clipN lo 0 x.length = 0
    · rw [h6] at h4 ⊢
      rw [h4]; simp
    · have : x.length = 0 := by lia
      have : x = [] := List.eq_nil_of_length_eq_zero this
      subst this; simp
  · rfl
theorem join_nil (ys : List (List Nat)) : Txt.join (Str.ofString "") (ys.map ofL) = ofL ys.flatten := by
  show Builtin.Str.glued _ _ = _
  rw [StrLaws.glued_eq_join]
  have e : Str.ofString "" = ofL [] := rfl
  rw [e]
  have : ∀ (ys : List (List Nat)), toL (Str.join (ofL []) (ys.map ofL)) = ys.flatten := by
    intro ys
    induction ys with
    | nil => rfl
    | cons a r ih =>
      cases r with
      | nil => simp [Str.join, toL, ofL]
      | cons b r =>
        simp only [List.map_cons] at ih ⊢
        show toL (ofL a ++ ofL [] ++ Str.join (ofL []) (ofL b :: r.map ofL)) = _
        have : ∀ (x y : Str), toL (x ++ y) = toL x ++ toL y := fun x y => by
          show (x.cps ++ y.cps).toList = _
          simp [toL]
        rw [this, this, ih]
        simp [toL_ofL]
  have h := this ys
  rw [← h, ofL_toL]
end Mine
end

section
open PySem PySem.Calls PyProof.Rows PySem.W
set_option maxRecDepth 100000
namespace Mine
noncomputable def BlE (f : List DV → Air → Option (DV × Air)) : Prop := ∀ ρ α, f ρ α = (f ρ none).map fun p => (p.1, α)
noncomputable def BlT (f : List DV → Air → Option (Bool × Air)) : Prop := ∀ ρ α, f ρ α = (f ρ none).map fun p => (p.1, α)
noncomputable def BlL (f : List DV → Air → Option (List DV × Air)) : Prop := ∀ ρ α, f ρ α = (f ρ none).map fun p => (p.1, α)
noncomputable def BlS (F : SF) : Prop := ∀ ρ own α, F ⟨ρ, own, α⟩ = (F ⟨ρ, own, none⟩).map fun p => (p.1, ⟨p.2.ρ, p.2.own, α⟩)
theorem bl_p (f) : BlE (gP f) := fun ρ α => by unfold gP; cases f ρ <;> rfl
theorem bl_pt (f) : BlT (gPT f) := fun ρ α => by unfold gPT; cases f ρ <;> rfl
theorem bl_lnil : BlL glNil := fun _ _ => rfl
theorem bl_lcons {f g} (hf : BlE f) (hg : BlL g) : BlL (glCons f g) := fun ρ α => by
  unfold glCons; rw [hf ρ α]
  cases h : f ρ none with
  | none => rfl
  | some p =>
    have e := hg ρ p.2
    simp only [Option.map_some, Option.bind_some]
    rw [hg ρ α, hg ρ p.2]
    cases g ρ none <;> rfl
theorem bl_call {F g} (hF : BlE F) (hg : BlL g) : BlE (gCall F g) := fun ρ α => by
  unfold gCall; rw [hg ρ α]
  cases h : g ρ none with
  | none => rfl
  | some p =>
    simp only [Option.map_some, Option.bind_some]
    rw [hF p.1 α, hF p.1 p.2]
    cases F p.1 none <;> rfl
theorem bl_meth {ok f k g} (hf : BlE f) : BlE (gMeth1 ok f k g) := fun ρ α => by
  unfold gMeth1; rw [hf ρ α]
  cases h : f ρ none with
  | none => rfl
  | some p =>
    simp only [Option.map_some, Option.bind_some]
    split
    · cases g ρ with
      | none => rfl
      | some ds => simp only [Option.bind_some]; cases k (p.1 :: ds) <;> rfl
    · rfl
theorem bl_nil : BlS kNil := fun _ _ _ => rfl
theorem bl_brk : BlS kBrk := fun _ _ _ => rfl
theorem bl_dead : BlS kDead := fun _ _ _ => rfl
theorem bl_seq {F G} (hF : BlS F) (hG : BlS G) : BlS (kSeq F G) := fun ρ own α => by
  unfold kSeq; rw [hF ρ own α]
  cases h : F ⟨ρ, own, none⟩ with
  | none => rfl
  | some p =>
    obtain ⟨fl, σ⟩ := p
    cases fl with
    | next => simp only [Option.map_some, Option.bind_some]; rw [hG σ.ρ σ.own α]; have := hG σ.ρ σ.own σ.air; rw [show G σ = _ from this]; cases G ⟨σ.ρ, σ.own, none⟩ <;> rfl
    | brk => rfl
    | ret d => rfl
theorem bl_set {i f} (hf : BlE f) : BlS (kSet i f) := fun ρ own α => by
  unfold kSet ownOff
  dsimp only
  rw [hf ρ α]
  split <;> split <;> first | rfl | (cases f ρ none <;> rfl)
theorem bl_aug {op i f} (hf : BlE f) : BlS (kAug op i f) := fun ρ own α => by
  unfold kAug ownOff
  dsimp only
  rw [hf ρ α]
  cases mVar i ρ with
  | none => split <;> split <;> rfl
  | some a =>
    simp only [Option.bind_some]
    cases f ρ none with
    | none => split <;> split <;> rfl
    | some p => simp only [Option.map_some, Option.bind_some]; cases augD op a p.1 <;> (split <;> split <;> rfl)
theorem bl_if {t F G} (ht : BlT t) (hF : BlS F) (hG : BlS G) : BlS (kIf t F G) := fun ρ own α => by
  unfold kIf
  dsimp only
  rw [ht ρ α]
  cases h : t ρ none with
  | none => rfl
  | some p =>
    simp only [Option.map_some, Option.bind_some]
    split
    · rw [hF ρ own α, hF ρ own p.2]; cases F ⟨ρ, own, none⟩ <;> rfl
    · rw [hG ρ own α, hG ρ own p.2]; cases G ⟨ρ, own, none⟩ <;> rfl
theorem bl_ret {f} (hf : BlE f) : BlS (kRet f) := fun ρ own α => by
  unfold kRet
  dsimp only
  rw [hf ρ α]
  cases f ρ none <;> rfl
theorem bl_own {i f} : BlS (kOwn i f) := fun ρ own α => by
  unfold kOwn
  dsimp only
  cases own with
  | some _ => rfl
  | none =>
    dsimp only
    cases f (msk ρ) with
    | none => rfl
    | some d => simp only [Option.bind_some]; cases d <;> (try rfl); dsimp only; split <;> rfl
theorem bl_push {k f} (hf : BlE f) : BlS (kPush k f) := fun ρ own α => by
  unfold kPush ownL
  dsimp only
  rw [hf ρ α]
  cases f ρ none with
  | none => rcases own with _ | ⟨j, _ | _⟩ <;> (try rfl); simp only [Option.bind_some]; split <;> rfl
  | some p => rcases own with _ | ⟨j, _ | _⟩ <;> (try rfl); simp only [Option.map_some, Option.bind_some]; split <;> (try rfl); split <;> rfl
theorem bl_frz {F} (hF : BlS F) : BlS (fun σ => F (frz σ)) := fun ρ own α => by
  rcases own with _ | ⟨j, _ | _⟩
  · exact hF ρ none α
  · exact hF _ none α
  · exact hF ρ _ α
theorem bl_for {i f F G} (hf : BlE f) (hF : BlS F) (hG : BlS G) : BlS (kFor (tName i) f F G) := fun ρ own α => by
  have go : ∀ ds ρ own α, forGo (tName i) F G ds ⟨ρ, own, α⟩ = (forGo (tName i) F G ds ⟨ρ, own, none⟩).map fun p => (p.1, ⟨p.2.ρ, p.2.own, α⟩) := by
    intro ds
    induction ds with
    | nil => intro ρ own α; exact hG ρ own α
    | cons d r ih =>
      intro ρ own α
      unfold forGo tName ownOff
      dsimp only
      have key : ∀ α, ((F ⟨ρ.set i d, own, α⟩).bind fun p => match p.1 with
          | .next => forGo (tName i) F G r p.2
          | .brk => some (.next, p.2)
          | .ret e => some (.ret e, p.2)) = (((F ⟨ρ.set i d, own, none⟩).bind fun p => match p.1 with
          | .next => forGo (tName i) F G r p.2
          | .brk => some (.next, p.2)
          | .ret e => some (.ret e, p.2))).map fun p => (p.1, ⟨p.2.ρ, p.2.own, α⟩) := by
        intro α
        rw [hF _ own α]
        cases h : F ⟨ρ.set i d, own, none⟩ with
        | none => rfl
        | some p =>
          obtain ⟨fl, σ⟩ := p
          cases fl with
          | next => simp only [Option.map_some, Option.bind_some]; rw [ih σ.ρ σ.own α]; rw [show forGo (tName i) F G r σ = _ from ih σ.ρ σ.own σ.air]; cases forGo (tName i) F G r ⟨σ.ρ, σ.own, none⟩ <;> rfl
          | brk => rfl
          | ret d => rfl
      split <;> split <;> first | rfl | exact key α
  unfold kFor
  dsimp only
  rw [hf ρ α]
  cases h : f ρ none with
  | none => rfl
  | some p =>
    simp only [Option.map_some, Option.bind_some]
    cases itemsD p.1 with
    | none => rfl
    | some ds =>
      simp only [Option.bind_some]
      rw [go ds ρ own α, go ds ρ own p.2]
      cases forGo (tName i) F G ds ⟨ρ, own, none⟩ <;> rfl
theorem bl_fn {k dd j F} (hF : BlS F) : BlE (fnOf k dd j F) := fun ds α => by
  unfold fnOf
  split
  · rw [hF _ none α]
    cases h : F ⟨(ds ++ dd) ++ List.replicate j .undef, none, none⟩ with
    | none => rfl
    | some p =>
      obtain ⟨fl, σ⟩ := p
      cases fl <;> rfl
  · rfl
theorem bl_pretty : BlE G_pretty := bl_fn (by
  unfold F_pretty B_pretty_1
  exact bl_seq bl_own (bl_seq (bl_for (bl_p _) (bl_seq (bl_set (bl_p _)) (bl_seq (bl_if (bl_pt _) (bl_seq (bl_push (bl_p _)) (bl_seq (bl_aug (bl_p _)) (bl_seq (bl_if (bl_pt _) (bl_seq bl_brk bl_nil) bl_nil) bl_nil))) bl_nil) bl_nil)) bl_dead) (bl_frz (bl_seq (bl_ret (bl_p _)) bl_nil))))
theorem bl_told : BlE G_told := bl_fn (by
  unfold F_told
  exact bl_seq (bl_set (bl_p _)) (bl_seq (bl_set (bl_meth (bl_call bl_pretty (bl_lcons (bl_p _) bl_lnil)))) (bl_seq (bl_ret (bl_p _)) bl_nil)))
theorem bl_row : BlE G_row := bl_fn (by unfold F_row; exact bl_seq (bl_ret (bl_p _)) bl_nil)
theorem bl_letters : BlE G_letters := bl_fn (by unfold F_letters; exact bl_seq (bl_ret (bl_p _)) bl_nil)
theorem bl_product : BlE G_product := bl_fn (by
  unfold F_product
  exact bl_seq (bl_set (bl_p _)) (bl_seq (bl_set (bl_p _)) (bl_seq (bl_for (bl_p _) (bl_seq (bl_if (bl_pt _) (bl_seq (bl_aug (bl_p _)) (bl_seq (bl_aug (bl_p _)) bl_nil)) (bl_seq (bl_aug (bl_p _)) bl_nil)) bl_nil) bl_nil) (bl_seq (bl_ret (bl_p _)) bl_nil))))
end Mine
end

section
open PySem PySem.Calls PyProof.Rows PySem.W
set_option maxRecDepth 100000
namespace Mine
noncomputable def nat (k : Nat) : DV := .int (k : Int)
noncomputable def tv (S : List Nat) : DV := .lst (S.map nat)
noncomputable def rising : Nat → Nat → Nat → List (List Nat)
  | _, 0, _ => [[]]
  | 0, _ + 1, _ => []
  | f + 1, n + 1, a => if a < 8 then (rising f n (a + 1)).map (a :: ·) ++ rising f (n + 1) (a + 1) else []
noncomputable def sets : List (List Nat) := rising 9 2 0 ++ rising 9 3 0 ++ rising 9 4 0
noncomputable def gapsF : Nat → List Nat → List Nat
  | _, [] => []
  | a, t :: r => (t - a) :: gapsF (t + 1) r
noncomputable def rowL : List Nat → List Nat
  | [] => []
  | g :: r => List.replicate g 32 ++ 111 :: rowL r
noncomputable def rowT (gs : List Nat) : Str := ofL (rowL gs)
noncomputable def piece (g : Nat) : DV := .tup [.str (ofL (List.replicate g 32)), .str (ofL [111])]
noncomputable def pieces (gs : List Nat) : List DV := gs.map piece
noncomputable def cnt (R : Nat → Bool) : Nat → Nat
  | 0 => 0
  | m + 1 => cnt R m + (R m).toNat
noncomputable def Pc (c : Nat) (R : Nat → Bool) : Nat → Nat
  | 0 => 1
  | m + 1 => Pc c R m * (c + cnt R m + 1)
noncomputable def tupD : DV → Option (List DV)
  | .tup l => some l
  | _ => none
theorem tupD_some {d : DV} {l : List DV} (h : tupD d = some l) : d = .tup l := by
  cases d with
  | tup j => rw [Option.some.inj h]
  | _ => exact nomatch (show (none : Option (List DV)) = some l from h)
noncomputable def pcD (d : DV) : Option (Str × Str) := (tupD d).bind fun l => two strD strD l
noncomputable def pcsOk (its : List DV) : List Nat → Bool := its.rec (fun gs => gs.isEmpty) fun d _ ih gs => match gs with
  | [] => false
  | g :: gs => pcD d == some (ofL (List.replicate g 32), ofL [111]) && ih gs
theorem pcsOk_is (its : List DV) : ∀ (gs : List Nat), pcsOk its gs = true → its = pieces gs := by
  induction its with
  | nil =>
    intro gs h
    cases gs with
    | nil => rfl
    | cons => cases h
  | cons d r ih =>
    intro gs h
    cases gs with
    | nil => cases h
    | cons g gs =>
      have h : (pcD d == some (ofL (List.replicate g 32), ofL [111]) && pcsOk r gs) = true := h
      obtain ⟨h1, h2⟩ := Bool.and_eq_true_iff.mp h
      obtain ⟨l, h3, h4⟩ := obind (eq_of_beq h1)
      obtain ⟨x, y, rfl, h5, h6⟩ := two_some h4
      rw [ih gs h2, tupD_some h3, strD_some h5, strD_some h6]; rfl
theorem asInts_is {ds : List DV} : ∀ {ns : List Int}, asInts ds = some ns → ds = ns.map .int := by
  induction ds with
  | nil => intro ns h; cases h; rfl
  | cons d r ih =>
    intro ns h
    obtain ⟨i, m, rfl, h', rfl⟩ := asInts_cons h
    rw [ih h']; rfl
noncomputable def rowOk (S : List Nat) : Bool := match G_row [tv S] none with
  | some (.str x, none) => x == rowT (gapsF 0 S)
  | _ => false
noncomputable def airOk (S : List Nat) : Bool := match G_air [tv S] none with
  | some (.air, some its) => pcsOk its (gapsF 0 S)
  | _ => false
noncomputable def isIntR (z : Option (DV × Air)) (i : Int) : Bool := match z with
  | some (.int j, none) => j == i
  | _ => false
theorem isIntR_is {z : Option (DV × Air)} {i : Int} (h : isIntR z i = true) : z = some (.int i, none) := by
  unfold isIntR at h
  split at h
  · rw [beq_iff_eq] at h; rw [h]
  · cases h
noncomputable def inS (S : List Nat) : Nat → Bool := fun k => decide (k ∈ S)
noncomputable def prodOk (S : List Nat) (p : Nat) : Bool := isIntR (G_product [tv S, nat p] none) (Pc 0 (inS S) p : Nat)
noncomputable def toldOk (S : List Nat) : Bool := match G_told [tv S] none with
  | some (.lst ds, none) => asInts ds == some (S.map fun (k : Nat) => (k : Int))
  | _ => false
theorem sets_row : sets.all rowOk = true := by decide +kernel
theorem sets_air : sets.all airOk = true := by decide +kernel
theorem sets_prod : sets.all (fun S => [1, 2, 3, 4].all fun p => prodOk S p) = true := by decide +kernel
end Mine
end

section
open PySem PySem.Calls PyProof.Rows PySem.W
set_option maxRecDepth 100000
namespace Mine
theorem told_0 : (sets.take 20).all toldOk = true := by decide +kernel
theorem told_1 : ((sets.drop 20).take 20).all toldOk = true := by decide +kernel
theorem told_2 : ((sets.drop 40).take 20).all toldOk = true := by decide +kernel
theorem told_3 : ((sets.drop 60).take 20).all toldOk = true := by decide +kernel
theorem told_4 : ((sets.drop 80).take 20).all toldOk = true := by decide +kernel
theorem told_5 : ((sets.drop 100).take 20).all toldOk = true := by decide +kernel
theorem told_6 : ((sets.drop 120).take 20).all toldOk = true := by decide +kernel
theorem told_7 : ((sets.drop 140).take 20).all toldOk = true := by decide +kernel
theorem all_chunks {p : List Nat → Bool} : ∀ (n : Nat) (l : List (List Nat)), (∀ i, i ≤ n → ((l.drop (20 * i)).take 20).all p = true) → (l.drop (20 * (n + 1))).all p = true → l.all p = true
  | 0, l, h, h' => by
    have := h 0 (Nat.le_refl _)
    rw [← List.take_append_drop 20 l, List.all_append]
    simp at this h' ⊢
    exact ⟨this, h'⟩
  | n + 1, l, h, h' => by
    refine all_chunks n l (fun i hi => h i (by omega)) ?_
    have := h (n + 1) (Nat.le_refl _)
    rw [← List.take_append_drop 20 (l.drop (20 * (n + 1))), List.all_append, this, List.drop_drop]
    exact h'
theorem sets_told : sets.all toldOk = true := by
  refine all_chunks 7 sets (fun i hi => ?_) (by decide +kernel)
  rcases (show i = 0 ∨ i = 1 ∨ i = 2 ∨ i = 3 ∨ i = 4 ∨ i = 5 ∨ i = 6 ∨ i = 7 by omega) with rfl | rfl | rfl | rfl | rfl | rfl | rfl | rfl
  · exact told_0
  · exact told_1
  · exact told_2
  · exact told_3
  · exact told_4
  · exact told_5
  · exact told_6
  · exact told_7
end Mine
end

section
open PySem PySem.Calls PyProof.Rows PySem.W
set_option maxRecDepth 100000
namespace Mine
theorem mem_rising : ∀ (f n a : Nat) (S : List Nat), S.length = n → S.Pairwise (· < ·) → (∀ k ∈ S, a ≤ k ∧ k < 8) → 9 ≤ f + a → S ∈ rising f n a
  | _, 0, _, [], _, _, _, _ => by unfold rising; simp
  | 0, n + 1, a, k :: r, _, _, h, hf => by have := h k (.head _); lia
  | f + 1, n + 1, a, k :: r, hl, hs, h, hf => by
    have hk := h k (.head _)
    rw [List.pairwise_cons] at hs
    unfold rising
    rw [if_pos (by lia), List.mem_append]
    by_cases e : k = a
    · left
      subst e
      refine List.mem_map.mpr ⟨r, mem_rising f n (k + 1) r (by simpa using hl) hs.2 (fun j hj => ?_) (by lia), rfl⟩
      have := hs.1 j hj
      have := h j (.tail _ hj)
      lia
    · right
      refine mem_rising f (n + 1) (a + 1) (k :: r) hl (List.pairwise_cons.mpr hs) (fun j hj => ?_) (by lia)
      have h1 := h j hj
      cases hj with
      | head => lia
      | tail _ hj => have := hs.1 j hj; lia
theorem mem_sets {S : List Nat} (h2 : 2 ≤ S.length) (h4 : S.length ≤ 4) (hs : S.Pairwise (· < ·)) (h8 : ∀ k ∈ S, k < 8) : S ∈ sets := by
  unfold sets
  have : S.length = 2 ∨ S.length = 3 ∨ S.length = 4 := by lia
  rw [List.mem_append, List.mem_append]
  rcases this with e | e | e
  · exact .inl (.inl (mem_rising 9 2 0 S e hs (fun k hk => ⟨Nat.zero_le _, h8 k hk⟩) (by lia)))
  · exact .inl (.inr (mem_rising 9 3 0 S e hs (fun k hk => ⟨Nat.zero_le _, h8 k hk⟩) (by lia)))
  · exact .inr (mem_rising 9 4 0 S e hs (fun k hk => ⟨Nat.zero_le _, h8 k hk⟩) (by lia))
noncomputable def goodS (S : List Nat) : Bool := decide (S.Pairwise (· < ·)) && S.all (fun k => decide (k < 8)) && decide (2 ≤ S.length) && decide (S.length ≤ 4)
theorem sets_good : sets.all goodS = true := by decide +kernel
theorem good_of {S : List Nat} (h : S ∈ sets) : S.Pairwise (· < ·) ∧ (∀ k ∈ S, k < 8) ∧ 2 ≤ S.length ∧ S.length ≤ 4 := by
  have := List.all_eq_true.mp sets_good S h
  unfold goodS at this
  simpa [and_assoc] using this
theorem row_of {S : List Nat} (h : S ∈ sets) (α : Air) : G_row [tv S] α = some (.str (rowT (gapsF 0 S)), α) := by
  have := List.all_eq_true.mp sets_row S h
  unfold rowOk at this
  rw [bl_row _ α]
  split at this
  · rename_i e; rw [e]; simp only [beq_iff_eq] at this; rw [this]; rfl
  · cases this
theorem told_of {S : List Nat} (h : S ∈ sets) (α : Air) : G_told [tv S] α = some (tv S, α) := by
  have := List.all_eq_true.mp sets_told S h
  unfold toldOk at this
  rw [bl_told _ α]
  split at this
  · rename_i e; rw [e]; simp only [beq_iff_eq] at this; rw [asInts_is this]
    unfold tv nat
    simp [Function.comp_def]
  · cases this
theorem air_of {S : List Nat} (h : S ∈ sets) : G_air [tv S] none = some (.air, some (pieces (gapsF 0 S))) := by
  have := List.all_eq_true.mp sets_air S h
  unfold airOk at this
  split at this
  · rename_i e; rw [e, pcsOk_is _ _ this]
  · cases this
theorem prod_all {S : List Nat} (h : S ∈ sets) : ([1, 2, 3, 4].all fun p => prodOk S p) = true := by
  have := List.all_eq_true.mp sets_prod S h
  exact this
theorem prod_one {S : List Nat} (h0 : ([1, 2, 3, 4].all fun p => prodOk S p) = true) {p : Nat} (hm : p ∈ [1, 2, 3, 4]) : prodOk S p = true := by
  rw [List.all_eq_true] at h0
  exact h0 p hm
theorem prod_pass {f : List DV → Air → Option (DV × Air)} (hf : BlE f) {ds : List DV} {d : DV} (h : f ds none = some (d, none)) (α : Air) : f ds α = some (d, α) := by
  rw [hf ds α, h]; rfl
theorem prod_of {S : List Nat} (h : S ∈ sets) {p : Nat} (h1 : 1 ≤ p) (h4 : p ≤ 4) (α : Air) : G_product [tv S, nat p] α = some (.int (Pc 0 (inS S) p : Nat), α) := by
  have hm : p ∈ [1, 2, 3, 4] := by
    have : p = 1 ∨ p = 2 ∨ p = 3 ∨ p = 4 := by lia
    rcases this with rfl | rfl | rfl | rfl <;> simp
  exact prod_pass bl_product (isIntR_is (prod_one (prod_all h) hm)) α
end Mine
end

section
open PySem PySem.Calls PyProof.Rows PySem.W
set_option maxRecDepth 100000
namespace Mine
theorem compGo_nat {fc : DV → Option Bool} {fe : DV → Option DV} {p : Nat → Bool} {g : Nat → DV} : ∀ {S : List Nat}, (∀ k ∈ S, fc (nat k) = some (p k)) → (∀ k ∈ S, p k = true → fe (nat k) = some (g k) ∧ flat (g k) = true) → compGo fc fe (S.map nat) = some ((S.filter p).map g)
  | [], _, _ => rfl
  | k :: r, hc, hg => by
    have ih := compGo_nat (S := r) (fun j hj => hc j (.tail _ hj)) (fun j hj => hg j (.tail _ hj))
    rw [List.map_cons]
    unfold compGo
    have hfl : flat (nat k) = true := rfl
    rw [if_pos hfl, hc k (.head _), Option.bind_some]
    cases hp : p k with
    | true =>
      obtain ⟨h1, h2⟩ := hg k (.head _) hp
      rw [if_pos rfl, h1, Option.bind_some, if_pos h2, ih, List.filter_cons, if_pos hp]; rfl
    | false =>
      rw [if_neg (by decide), ih, List.filter_cons, if_neg (by rw [hp]; decide)]
theorem mComp_nat {j : Nat} {vis : List Nat} {fi fe : List DV → Option DV} {fc : List DV → Option Bool} {ρ : List DV} {a : DV} {S : List Nat} {p : Nat → Bool} {g : Nat → DV} (h1 : fi ρ = some a) (h2 : itemsD a = some (S.map nat)) (h3 : j < ρ.length)
    (hc : ∀ k ∈ S, fc (inner vis j (nat k) ρ) = some (p k)) (hg : ∀ k ∈ S, p k = true → fe (inner vis j (nat k) ρ) = some (g k) ∧ flat (g k) = true) : mComp j vis fi fc fe ρ = some (.lst ((S.filter p).map g)) := by
  unfold mComp
  rw [h1, Option.bind_some, h2, Option.bind_some, if_pos h3, compGo_nat hc hg]; rfl
theorem rng_nat {a b : Nat} (ha : a ≤ 1000) (hb : b ≤ 1000) : rngD (a : Int) (b : Int) 1 = some (.rng a 1 (b - a)) := by
  have h1 : Builtin.Range.rangeSize (a : Int) (b : Int) 1 = ((b - a : Nat) : Int) := by
    unfold Builtin.Range.rangeSize
    simp
    split <;> lia
  have h2 : Builtin.Range.small (a : Int) (b : Int) 1 = true := by
    unfold Builtin.Range.small
    rw [h1]
    simp [Builtin.Range.rangeFitsLong]
    omega
  unfold rngD
  rw [h1, h2, if_pos ⟨by decide, by decide, rfl, by lia, by lia⟩]; rfl
theorem items_rng {a n : Nat} : itemsD (.rng a 1 n) = some (((List.range n).map (a + ·)).map nat) := by
  unfold itemsD rngInts
  simp only [List.map_map, Option.some.injEq]
  refine List.map_congr_left fun k _ => ?_
  show DV.int ((a : Int) + (k : Int) * 1) = DV.int ((a + k : Nat) : Int)
  congr 1; lia
theorem items_tv (S : List Nat) : itemsD (tv S) = some (S.map nat) := rfl
theorem asInts_tv : ∀ (S : List Nat), asInts (S.map nat) = some (S.map fun (k : Nat) => (k : Int))
  | [] => rfl
  | k :: r => by
    show (asInts (r.map nat)).map _ = _
    rw [asInts_tv r]; rfl
theorem inD_nat (k : Nat) (S : List Nat) : inD (k : Int) (S.map nat) = some (decide (k ∈ S)) := by
  unfold inD
  rw [asInts_tv, Option.map_some]
  congr 1
  rw [Bool.eq_iff_iff]
  simp [List.any_eq_true]
  exact ⟨fun ⟨x, h, e⟩ => by have : x = k := by lia
                             exact this ▸ h, fun h => ⟨k, h, rfl⟩⟩
theorem range0 : (List.range 8).map ((0 : Nat) + ·) = List.range 8 := by decide
theorem toNat_ite (b : Bool) : (if b = true then (1 : Nat) else 0) = b.toNat := by cases b <;> rfl
noncomputable def insN (a : Nat) : List Nat → List Nat
  | [] => [a]
  | b :: r => if a ≤ b then a :: b :: r else b :: insN a r
noncomputable def sortN : List Nat → List Nat
  | [] => []
  | a :: r => insN a (sortN r)
theorem ins_cast (a : Nat) : ∀ (l : List Nat), ins (a : Int) (l.map fun (k : Nat) => (k : Int)) = (insN a l).map fun (k : Nat) => (k : Int)
  | [] => rfl
  | b :: r => by
    rw [List.map_cons]
    unfold ins insN
    by_cases h : a ≤ b
    · rw [if_pos h, if_pos (by lia)]; rfl
    · rw [if_neg h, if_neg (by lia), ins_cast a r]; rfl
theorem order_cast : ∀ (l : List Nat), inOrder (l.map fun (k : Nat) => (k : Int)) = (sortN l).map fun (k : Nat) => (k : Int)
  | [] => rfl
  | a :: r => by
    rw [List.map_cons]
    unfold inOrder sortN
    rw [order_cast r, ins_cast]
theorem mem_insN {a k : Nat} : ∀ {l : List Nat}, k ∈ insN a l ↔ k = a ∨ k ∈ l
  | [] => by unfold insN; simp
  | b :: r => by
    unfold insN
    split
    · simp
    · rw [List.mem_cons, mem_insN, List.mem_cons]
      constructor
      · rintro (h | h | h)
        · exact .inr (.inl h)
        · exact .inl h
        · exact .inr (.inr h)
      · rintro (h | h | h)
        · exact .inr (.inl h)
        · exact .inl h
        · exact .inr (.inr h)
theorem mem_sortN {k : Nat} : ∀ {l : List Nat}, k ∈ sortN l ↔ k ∈ l
  | [] => Iff.rfl
  | a :: r => by unfold sortN; rw [mem_insN, mem_sortN, List.mem_cons]
theorem len_insN (a : Nat) : ∀ l, (insN a l).length = l.length + 1
  | [] => rfl
  | b :: r => by
    unfold insN
    split
    · rfl
    · rw [List.length_cons, len_insN a r]; rfl
theorem len_sortN : ∀ l, (sortN l).length = l.length
  | [] => rfl
  | a :: r => by unfold sortN; rw [len_insN, len_sortN r]; rfl
theorem up_insN {a : Nat} : ∀ {l : List Nat}, l.Pairwise (· < ·) → a ∉ l → (insN a l).Pairwise (· < ·)
  | [], _, _ => by unfold insN; simp
  | b :: r, h, hn => by
    have h' := List.pairwise_cons.mp h
    rw [List.mem_cons, not_or] at hn
    unfold insN
    split
    · refine List.pairwise_cons.mpr ⟨fun k hk => ?_, h⟩
      rcases List.mem_cons.mp hk with rfl | hk
      · lia
      · have := h'.1 k hk; omega
    · refine List.pairwise_cons.mpr ⟨fun k hk => ?_, up_insN h'.2 hn.2⟩
      rcases mem_insN.mp hk with rfl | hk
      · omega
      · exact h'.1 k hk
theorem up_sortN : ∀ {l : List Nat}, l.Nodup → (sortN l).Pairwise (· < ·)
  | [], _ => by unfold sortN; simp
  | a :: r, h => by
    have h' := List.nodup_cons.mp h
    unfold sortN
    exact up_insN (up_sortN h'.2) fun q => h'.1 (mem_sortN.mp q)
theorem free_some {b : List Nat} (h : b.length ≤ 3) : (List.range 8).filter (fun k => !decide (k ∈ b)) ≠ [] := by
  intro e
  have : ∀ k, k < 8 → k ∈ b := fun k hk => by
    have := List.filter_eq_nil_iff.mp e k (List.mem_range.mpr hk)
    simpa using this
  have h0 := this 0 (by decide)
  have h1 := this 1 (by decide)
  have h2 := this 2 (by decide)
  have h3 := this 3 (by decide)
  clear this e
  have nd : ([0, 1, 2, 3] : List Nat).Nodup := by decide
  have := nd.length_le_of_subset (l₂ := b) fun k hk => by
    simp only [List.mem_cons, List.not_mem_nil, or_false] at hk
    rcases hk with rfl | rfl | rfl | rfl <;> assumption
  exact absurd (Nat.le_trans this h) (by decide)
section
variable {F G : SF} {σ σ' : St} {ρ : List DV} {own : Option (Nat × OwnK)} {α α' : Air} {i : Nat} {d : DV} {b : Bool}
theorem seq_next (h : F σ = some (.next, σ')) : kSeq F G σ = G σ' := by unfold kSeq; rw [h]; rfl
theorem seq_ret (h : F σ = some (.ret d, σ')) : kSeq F G σ = some (.ret d, σ') := by unfold kSeq; rw [h]; rfl
theorem seq_nil : kSeq F kNil σ = F σ := by
  unfold kSeq kNil
  cases F σ with
  | none => rfl
  | some p => obtain ⟨fl, s⟩ := p; cases fl <;> rfl
theorem p_eq {f : List DV → Option DV} (h : f ρ = some d) : gP f ρ α = some (d, α) := by unfold gP; rw [h]; rfl
theorem pt_eq {f : List DV → Option Bool} (h : f ρ = some b) : gPT f ρ α = some (b, α) := by unfold gPT; rw [h]; rfl
theorem set_eq {f : List DV → Air → Option (DV × Air)} (ho : ownOff ⟨ρ, own, α⟩ i = true) (h : f ρ α = some (d, α')) : kSet i f ⟨ρ, own, α⟩ = some (.next, ⟨ρ.set i d, own, α'⟩) := by
  unfold kSet; rw [if_pos ho]; dsimp only; rw [h]; rfl
theorem if_t {t : List DV → Air → Option (Bool × Air)} (h : t ρ α = some (true, α')) : kIf t F G ⟨ρ, own, α⟩ = F ⟨ρ, own, α'⟩ := by unfold kIf; dsimp only; rw [h]; rfl
theorem if_f {t : List DV → Air → Option (Bool × Air)} (h : t ρ α = some (false, α')) : kIf t F G ⟨ρ, own, α⟩ = G ⟨ρ, own, α'⟩ := by unfold kIf; dsimp only; rw [h]; rfl
theorem ret_eq {f : List DV → Air → Option (DV × Air)} (h : f ρ α = some (d, α')) : kRet f ⟨ρ, own, α⟩ = some (.ret d, ⟨ρ, own, α'⟩) := by unfold kRet; dsimp only; rw [h]; rfl
theorem expr_eq {f : List DV → Air → Option (DV × Air)} (h : f ρ α = some (d, α')) : kExpr f ⟨ρ, own, α⟩ = some (.next, ⟨ρ, own, α'⟩) := by unfold kExpr; dsimp only; rw [h]; rfl
theorem aug_eq {op : Operator} {f : List DV → Air → Option (DV × Air)} {a e r : DV} (ho : ownOff ⟨ρ, own, α⟩ i = true) (ha : mVar i ρ = some a) (h : f ρ α = some (e, α')) (hr : augD op a e = some r) : kAug op i f ⟨ρ, own, α⟩ = some (.next, ⟨ρ.set i r, own, α'⟩) := by
  unfold kAug; rw [if_pos ho]; dsimp only; rw [ha, Option.bind_some, h, Option.bind_some, hr]; rfl
theorem call_eq {f : List DV → Air → Option (DV × Air)} {g : List DV → Air → Option (List DV × Air)} {ds : List DV} {β : Air} (hg : g ρ α = some (ds, β)) (hf : f ds β = some (d, α')) : gCall f g ρ α = some (d, α') := by
  unfold gCall; rw [hg, Option.bind_some]; exact hf
theorem lcons_eq {f : List DV → Air → Option (DV × Air)} {g : List DV → Air → Option (List DV × Air)} {ds : List DV} {β : Air} (hf : f ρ α = some (d, β)) (hg : g ρ β = some (ds, α')) : glCons f g ρ α = some (d :: ds, α') := by
  unfold glCons; rw [hf, Option.bind_some, hg]; rfl
end
section
variable {f g : List DV → Option DV} {ρ : List DV} {a b c : DV}
theorem mbin_eq {op : Operator} (h1 : f ρ = some a) (h2 : g ρ = some b) (h3 : binD op a b = some c) : mBin op f g ρ = some c := by unfold mBin; rw [h1, Option.bind_some, h2, Option.bind_some, h3]
theorem midx_eq (h1 : f ρ = some a) (h2 : g ρ = some b) (h3 : idxD a b = some c) : mIdx f g ρ = some c := by unfold mIdx; rw [h1, Option.bind_some, h2, Option.bind_some, h3]
theorem mcmp_eq {op : CmpOp} {t : Bool} (h1 : f ρ = some a) (h2 : g ρ = some b) (h3 : cmpD op a b = some t) : mCmp op f g ρ = some t := by unfold mCmp; rw [h1, Option.bind_some, h2, Option.bind_some, h3]
theorem mcall_eq {k : List DV → Option DV} {r : List DV → Option (List DV)} {ds : List DV} (h1 : r ρ = some ds) (h2 : k ds = some c) : mCall k r ρ = some c := by unfold mCall; rw [h1, Option.bind_some, h2]
theorem mlc_eq {r : List DV → Option (List DV)} {ds : List DV} (h1 : f ρ = some a) (h2 : r ρ = some ds) : lCons f r ρ = some (a :: ds) := by unfold lCons; rw [h1, Option.bind_some, h2]; rfl
theorem mlist_eq {r : List DV → Option (List DV)} {ds : List DV} (h1 : r ρ = some ds) (h2 : ds.length ≤ sizeB) : mList r ρ = some (.lst ds) := by unfold mList; rw [h1, Option.bind_some, if_pos h2]
theorem mslice_eq {lo hi : List DV → Option (Option Int)} {l u : Option Int} (h1 : f ρ = some a) (h2 : lo ρ = some l) (h3 : hi ρ = some u) (h4 : sliceD a l u = some c) : mSlice f lo hi ρ = some c := by unfold mSlice; rw [h1, Option.bind_some, h2, Option.bind_some, h3, Option.bind_some, h4]
theorem mat_eq {p : Option Int} (h1 : f ρ = some a) (h2 : partD a = some p) : pAt f ρ = some p := by unfold pAt; rw [h1]; exact h2
end
theorem state_step {held : List Nat} {balls : Nat} {ds g : DV} {i : Int} {b : List Nat} {k : DV} {α : Air} (hb : balls ≤ 4) (hl : b.length < balls) (h8 : ∀ k ∈ b, k < 8) :
    ∃ j e, j < 8 ∧ j ∉ b ∧ B_state_1 ⟨[tv held, nat balls, ds, tv b, .int i, g, k], none, α⟩ = some (.next, ⟨[tv held, nat balls, ds, tv (b ++ [j]), .int i, e, k], none, α⟩) := by
  have t1 : mCmp .Lt (mCall lenD (lCons (mVar 3) lNil)) (mVar 1) [tv held, nat balls, ds, tv b, .int i, g, k] = some true := by
    show some (decide (((b.map nat).length : Int) < (balls : Int))) = some true
    rw [decide_eq_true]
    simp; lia
  have t2 : mComp 6 [3] (mCall rangeD (lCons (mInt 8) lNil)) (mCmp .NotIn (mVar 6) (mVar 3)) (mVar 6) [tv held, nat balls, ds, tv b, .int i, g, k] = some (tv ((List.range 8).filter (fun k => !decide (k ∈ b)))) := by
    refine mComp_nat (a := .rng 0 1 8) (S := List.range 8) (g := nat) ?_ ?_ (by simp) (fun k' _ => ?_) (fun k' _ _ => ⟨rfl, rfl⟩)
    · exact rng_nat (a := 0) (b := 8) (by lia) (by lia)
    · have := items_rng (a := 0) (n := 8); rw [range0] at this; exact this
    · show (inD (k' : Int) (b.map nat)).map (!·) = _
      rw [inD_nat]; rfl
  generalize hfr : (List.range 8).filter (fun k => !decide (k ∈ b)) = fr at t2
  have hne : fr ≠ [] := hfr ▸ free_some (by lia)
  have hlen : 0 < fr.length := List.length_pos_iff.mpr hne
  have hm0 : 0 ≤ i.fmod (fr.length : Int) := Int.fmod_nonneg_of_pos _ (by lia)
  have hm1 : i.fmod (fr.length : Int) < fr.length := Int.fmod_lt_of_pos _ (by lia)
  have hmn : (i.fmod (fr.length : Int)).toNat < fr.length := by omega
  have hfl : fr.length ≤ 8 := by rw [← hfr]; exact Nat.le_trans (List.length_filter_le _ _) (by simp)
  have hmem : fr[(i.fmod (fr.length : Int)).toNat] ∈ fr := List.getElem_mem hmn
  generalize hj : fr[(i.fmod (fr.length : Int)).toNat] = j at hmem
  have hj' : j ∈ (List.range 8).filter (fun k => !decide (k ∈ b)) := hfr ▸ hmem
  rw [List.mem_filter, List.mem_range] at hj'
  refine ⟨j, tv fr, hj'.1, by simpa using hj'.2, ?_⟩
  unfold B_state_1
  rw [seq_nil, if_t (pt_eq t1), seq_next (set_eq rfl (p_eq t2)), seq_nil]
  have t3 : mBin .Add (mVar 3) (mList (lCons (mIdx (mVar 5) (mBin .Mod (mVar 4) (mCall lenD (lCons (mVar 5) lNil)))) lNil)) ([tv held, nat balls, ds, tv b, .int i, g, k].set 5 (tv fr)) = some (tv (b ++ [j])) := by
    have e1 : mBin .Mod (mVar 4) (mCall lenD (lCons (mVar 5) lNil)) ([tv held, nat balls, ds, tv b, .int i, g, k].set 5 (tv fr)) = some (.int (i.fmod (fr.length : Int))) := by
      show (if (((fr.map nat).length : Int)) = 0 then none else some (DV.int (i.fmod ((fr.map nat).length : Int)))) = _
      rw [List.length_map, if_neg (by lia)]
    have e2 : mIdx (mVar 5) (mBin .Mod (mVar 4) (mCall lenD (lCons (mVar 5) lNil))) ([tv held, nat balls, ds, tv b, .int i, g, k].set 5 (tv fr)) = some (nat j) := by
      unfold mIdx
      rw [e1]
      show (if (fr.map nat).length ≤ sizeB then at? (fr.map nat) _ else none) = _
      rw [if_pos (by rw [List.length_map]; exact Nat.le_trans hfl (by decide))]
      unfold at?
      rw [if_pos hm0, List.getElem?_map, List.getElem?_eq_getElem hmn, hj]; rfl
    refine mbin_eq (a := tv b) (b := .lst [nat j]) rfl (mlist_eq (mlc_eq e2 rfl) (show 1 ≤ sizeB by decide)) ?_
    show (if (b.map nat).length + 1 ≤ sizeB then some (DV.lst (b.map nat ++ [nat j])) else none) = _
    rw [if_pos (by rw [List.length_map]; exact Nat.le_trans (show b.length + 1 ≤ 8 by lia) (by decide))]
    unfold tv
    rw [List.map_append]; rfl
  exact set_eq rfl (p_eq t3)
theorem state_skip {held : List Nat} {balls : Nat} {ds g : DV} {i : Int} {b : List Nat} {k : DV} {α : Air} (hl : ¬ b.length < balls) :
    B_state_1 ⟨[tv held, nat balls, ds, tv b, .int i, g, k], none, α⟩ = some (.next, ⟨[tv held, nat balls, ds, tv b, .int i, g, k], none, α⟩) := by
  have t1 : mCmp .Lt (mCall lenD (lCons (mVar 3) lNil)) (mVar 1) [tv held, nat balls, ds, tv b, .int i, g, k] = some false := by
    show some (decide (((b.map nat).length : Int) < (balls : Int))) = some false
    rw [decide_eq_false]
    simp; lia
  unfold B_state_1
  rw [seq_nil, if_f (pt_eq t1)]; rfl
theorem state_go {held : List Nat} {balls : Nat} {ds : DV} {k : DV} {α : Air} (hb : balls ≤ 4) : ∀ (l : List Int) (b : List Nat) (x g : DV), b.length ≤ balls → b.Nodup → (∀ k ∈ b, k < 8) →
    ∃ b' y e, b'.length = min balls (b.length + l.length) ∧ b'.Nodup ∧ (∀ k ∈ b', k < 8) ∧ (∀ k ∈ b, k ∈ b') ∧ forGo (tName 4) B_state_1 kNil (l.map .int) ⟨[tv held, nat balls, ds, tv b, x, g, k], none, α⟩ = some (.next, ⟨[tv held, nat balls, ds, tv b', y, e, k], none, α⟩)
  | [], b, x, g, hl, hn, h8 => ⟨b, x, g, by simp; lia, hn, h8, fun _ h => h, rfl⟩
  | i :: r, b, x, g, hl, hn, h8 => by
    by_cases h : b.length < balls
    · obtain ⟨j, e, hj8, hjn, hB⟩ := state_step (held := held) (ds := ds) (g := g) (i := i) (k := k) (α := α) hb h h8
      obtain ⟨b', y, e', h1, h2, h3, h4, h5⟩ := state_go hb r (b ++ [j]) (.int i) e (by simp; lia) (List.nodup_append.mpr ⟨hn, by simp, fun a ha c hc => by simp at hc; subst hc; intro q; exact hjn (q ▸ ha)⟩) (fun k hk => by
        rcases List.mem_append.mp hk with hk | hk
        · exact h8 k hk
        · simp at hk; lia)
      refine ⟨b', y, e', ?_, h2, h3, fun k hk => h4 k (List.mem_append_left _ hk), ?_⟩
      · rw [h1]; simp; lia
      · show (B_state_1 ⟨[tv held, nat balls, ds, tv b, .int i, g, k], none, α⟩).bind _ = _
        rw [hB]; exact h5
    · obtain ⟨b', y, e', h1, h2, h3, h4, h5⟩ := state_go (held := held) (ds := ds) (k := k) (α := α) hb r b (.int i) g hl hn h8
      refine ⟨b', y, e', ?_, h2, h3, h4, ?_⟩
      · rw [h1]; simp; lia
      · show (B_state_1 ⟨[tv held, nat balls, ds, tv b, .int i, g, k], none, α⟩).bind _ = _
        rw [state_skip h]; exact h5
theorem state_of {held : List Nat} {balls : Nat} {l : List Int} (α : Air) (h2 : 2 ≤ balls) (h4 : balls ≤ 4) (hl : l.length = 4) (hb : held.length ≤ balls) (hn : held.Nodup) (h8 : ∀ k ∈ held, k < 8) :
    ∃ S ∈ sets, S.length = balls ∧ (∀ k ∈ held, k ∈ S) ∧ G_state [tv held, nat balls, .lst (l.map .int)] α = some (tv S, α) := by
  obtain ⟨b, y, e, h1, h2', h3, h5, h6⟩ := state_go (held := held) (ds := .lst (l.map .int)) (k := .undef) (α := α) h4 l held .undef .undef hb hn h8
  have hlen : b.length = balls := by rw [h1]; lia
  have hs : (sortN b).length = balls := by rw [len_sortN, hlen]
  refine ⟨sortN b, mem_sets (by lia) (by lia) (up_sortN h2') fun k hk => h3 k (mem_sortN.mp hk), hs, fun k hk => mem_sortN.mpr (h5 k hk), ?_⟩
  have e1 : F_state ⟨[tv held, nat balls, .lst (l.map .int), .undef, .undef, .undef, .undef], none, α⟩ = some (.ret (tv (sortN b)), ⟨[tv held, nat balls, .lst (l.map .int), tv b, y, e, .undef], none, α⟩) := by
    unfold F_state
    rw [seq_next (set_eq (d := tv held) rfl (p_eq rfl))]
    have e2 : kFor (tName 4) (gP (mVar 2)) B_state_1 kNil ⟨[tv held, nat balls, .lst (l.map .int), .undef, .undef, .undef, .undef].set 3 (tv held), none, α⟩ = some (.next, ⟨[tv held, nat balls, .lst (l.map .int), tv b, y, e, .undef], none, α⟩) := h6
    rw [seq_next e2, seq_nil]
    refine ret_eq (p_eq ?_)
    show (if (b.map nat).length < 64 then (asInts (b.map nat)).map fun ns => DV.lst ((inOrder ns).map .int) else none) = _
    rw [if_pos (by rw [List.length_map]; lia), asInts_tv, Option.map_some, order_cast]
    unfold tv
    rw [List.map_map]; rfl
  show (F_state ⟨[tv held, nat balls, .lst (l.map .int), .undef, .undef, .undef, .undef], none, α⟩).bind _ = _
  rw [e1]; rfl
end Mine
end

section
open PySem PySem.Calls PyProof.Rows PySem.W
set_option maxRecDepth 100000
namespace Mine
theorem and_eq {f g : List DV → Air → Option (DV × Air)} {ρ : List DV} {α β α' : Air} {d : DV} (h1 : f ρ α = some (.bool true, β)) (h2 : g ρ β = some (d, α')) : gAnd f g ρ α = some (d, α') := by
  unfold gAnd; rw [h1]; exact h2
theorem pick_map {α β : Type} (f : α → β) (xs : List α) (lo hi : Option Int) : pick (xs.map f) lo hi = (pick xs lo hi).map f := by
  rw [pick_eq, pick_eq, List.length_map, List.map_take, List.map_drop]
noncomputable def seeds : List Int := [0, 2, 0, 1, 4, 2, 1, 3, 5, 2, 5, 2, 3, 1]
theorem draws_of (l : List Int) (hl : l.length ≤ 63) (α : Air) : ∃ d : List Int, d.length = 14 ∧ G_draws [.lst (l.map .int)] α = some (.lst (d.map .int), α) := by
  have hf : (pick l none (some 14)).length ≤ 63 := by rw [pick_eq]; simp; lia
  generalize hfi : pick l none (some 14) = fi at hf
  refine ⟨(List.range 14).map fun k => seeds.getD k 0 + (if k < fi.length then fi.getD k 0 else 0), by simp, ?_⟩
  have e : F_draws ⟨[.lst (l.map .int), .undef, .undef, .undef], none, α⟩ = some (.ret (.lst (((List.range 14).map fun k => seeds.getD k 0 + (if k < fi.length then fi.getD k 0 else 0)).map .int)), ⟨[.lst (l.map .int), .lst (seeds.map .int), .lst (fi.map .int), .undef], none, α⟩) := by
    unfold F_draws
    rw [seq_next (set_eq (d := .lst (seeds.map .int)) rfl (p_eq rfl))]
    rw [seq_next (set_eq (d := .lst (fi.map .int)) rfl (p_eq (mslice_eq (a := .lst (l.map .int)) (l := none) (u := some 14) rfl rfl rfl (by rw [← hfi, ← pick_map]; rfl)))), seq_nil]
    refine ret_eq (p_eq ?_)
    have h0 : (List.range 14).map ((0 : Nat) + ·) = List.range 14 := by decide
    have := mComp_nat (j := 3) (vis := [1, 2]) (fi := mCall rangeD (lCons (mInt 14) lNil)) (fc := mAndT) (fe := mBin .Add (mIdx (mVar 1) (mVar 3)) (mIf (mCmp .Lt (mVar 3) (mCall lenD (lCons (mVar 2) lNil))) (mIdx (mVar 2) (mVar 3)) (mInt 0))) (ρ := [.lst (l.map .int), .lst (seeds.map .int), .lst (fi.map .int), .undef]) (a := .rng 0 1 14) (S := List.range 14) (p := fun _ => true) (g := fun k => .int (seeds.getD k 0 + (if k < fi.length then fi.getD k 0 else 0)))
      (rng_nat (a := 0) (b := 14) (by lia) (by lia)) (by have := items_rng (a := 0) (n := 14); rw [h0] at this; exact this) (show 3 < 4 by decide) (fun _ _ => rfl) (fun k hk _ => ⟨?_, rfl⟩)
    · rw [List.filter_eq_self.mpr (fun _ _ => rfl)] at this
      rw [List.map_map]
      exact this
    · have hk : k < 14 := List.mem_range.mp hk
      have i1 : mIdx (mVar 1) (mVar 3) (inner [1, 2] 3 (nat k) [.lst (l.map .int), .lst (seeds.map .int), .lst (fi.map .int), .undef]) = some (.int (seeds.getD k 0)) := by
        refine midx_eq (a := .lst (seeds.map .int)) (b := nat k) rfl rfl ?_
        show (if (seeds.map DV.int).length ≤ sizeB then at? (seeds.map DV.int) (k : Int) else none) = _
        rw [if_pos (by decide)]
        unfold at?
        have hk' : k < seeds.length := hk
        rw [if_pos (by lia), List.getElem?_map, Int.toNat_natCast, List.getElem?_eq_getElem hk', List.getD_eq_getElem?_getD, List.getElem?_eq_getElem hk']; rfl
      refine mbin_eq (a := .int (seeds.getD k 0)) (b := .int (if k < fi.length then fi.getD k 0 else 0)) i1 ?_ rfl
      have c1 : mCmp .Lt (mVar 3) (mCall lenD (lCons (mVar 2) lNil)) (inner [1, 2] 3 (nat k) [.lst (l.map .int), .lst (seeds.map .int), .lst (fi.map .int), .undef]) = some (decide (k < fi.length)) := by
        show some (decide ((k : Int) < ((fi.map DV.int).length : Int))) = _
        rw [List.length_map]
        congr 1
        exact decide_eq_decide.mpr (by omega)
      unfold mIf
      rw [c1, Option.bind_some]
      by_cases h : k < fi.length
      · rw [decide_eq_true h, if_pos rfl, if_pos h]
        refine midx_eq (a := .lst (fi.map .int)) (b := nat k) rfl rfl ?_
        show (if (fi.map DV.int).length ≤ sizeB then at? (fi.map DV.int) (k : Int) else none) = _
        rw [if_pos (by rw [List.length_map]; exact Nat.le_trans hf (by decide))]
        unfold at?
        rw [if_pos (by lia), List.getElem?_map, Int.toNat_natCast, List.getElem?_eq_getElem h, List.getD_eq_getElem?_getD, List.getElem?_eq_getElem h]; rfl
      · rw [decide_eq_false h, if_neg (by decide), if_neg h]; rfl
  show (F_draws ⟨[.lst (l.map .int), .undef, .undef, .undef], none, α⟩).bind _ = _
  rw [e]; rfl
noncomputable def upOf (p : Nat) (S : List Nat) : List Nat := (S.filter fun k => decide (p ≤ k)).map (· - p)
theorem up_comp {j v : Nat} {S : List Nat} {p : Nat} {ρ : List DV} {fi : List DV → Option DV} (h1 : fi ρ = some (tv S)) (hj : j < ρ.length)
    (hv : ∀ k, mVar j (inner [v] j (nat k) ρ) = some (nat k)) (hp : ∀ k, mVar v (inner [v] j (nat k) ρ) = some (nat p)) : mComp j [v] fi (mCmp .GtE (mVar j) (mVar v)) (mBin .Sub (mVar j) (mVar v)) ρ = some (tv (upOf p S)) := by
  have := mComp_nat (j := j) (vis := [v]) (fi := fi) (fc := mCmp .GtE (mVar j) (mVar v)) (fe := mBin .Sub (mVar j) (mVar v)) (ρ := ρ) (a := tv S) (S := S) (p := fun k => decide (p ≤ k)) (g := fun k => .int ((k : Int) - (p : Int))) h1 rfl hj (fun k _ => ?_) (fun k _ _ => ⟨?_, rfl⟩)
  · rw [this]
    unfold upOf tv
    rw [List.map_map]
    congr 2
    refine List.map_congr_left fun k hk => ?_
    have := (List.mem_filter.mp hk).2
    simp at this
    show DV.int ((k : Int) - (p : Int)) = DV.int ((k - p : Nat) : Int)
    congr 1
    lia
  · refine mcmp_eq (hv k) (hp k) ?_
    show some (decide ((k : Int) ≥ (p : Int))) = _
    congr 1
    exact decide_eq_decide.mpr (by lia)
  · exact mbin_eq (hv k) (hp k) rfl
theorem up_facts {p : Nat} {S : List Nat} (hs : S.Pairwise (· < ·)) (h8 : ∀ k ∈ S, k < 8) : (upOf p S).Pairwise (· < ·) ∧ (upOf p S).length ≤ S.length ∧ ∀ k ∈ upOf p S, k + p < 8 := by
  unfold upOf
  refine ⟨?_, by rw [List.length_map]; exact List.length_filter_le _ _, fun k hk => ?_⟩
  · rw [List.pairwise_map]
    refine (hs.filter _).imp_of_mem fun {a b} ha hb h => ?_
    have h1 := (List.mem_filter.mp ha).2
    have h2 := (List.mem_filter.mp hb).2
    simp at h1 h2
    omega
  · obtain ⟨x, hx, rfl⟩ := List.mem_map.mp hk
    have h1 := (List.mem_filter.mp hx).2
    have := h8 x (List.mem_filter.mp hx).1
    simp at h1
    omega
theorem up_nodup {l : List Nat} (h : l.Pairwise (· < ·)) : l.Nodup := h.imp fun h => Nat.ne_of_lt h
inductive L14 (l : List Int) : Prop
  | mk (d0 d1 d2 d3 d4 d5 d6 d7 d8 d9 d10 d11 d12 d13 : Int) (e : l = [d0, d1, d2, d3, d4, d5, d6, d7, d8, d9, d10, d11, d12, d13]) : L14 l
theorem len14 {l : List Int} (h : l.length = 14) : L14 l := by
  obtain ⟨d0, r, e, h⟩ := len_succ h
  obtain ⟨d1, r1, e1, h⟩ := len_succ h
  obtain ⟨d2, r2, e2, h⟩ := len_succ h
  obtain ⟨d3, r3, e3, h⟩ := len_succ h
  obtain ⟨d4, r4, e4, h⟩ := len_succ h
  obtain ⟨d5, r5, e5, h⟩ := len_succ h
  obtain ⟨d6, r6, e6, h⟩ := len_succ h
  obtain ⟨d7, r7, e7, h⟩ := len_succ h
  obtain ⟨d8, r8, e8, h⟩ := len_succ h
  obtain ⟨d9, r9, e9, h⟩ := len_succ h
  obtain ⟨d10, d11, d12, d13, e10⟩ := len4 h
  exact ⟨d0, d1, d2, d3, d4, d5, d6, d7, d8, d9, d10, d11, d12, d13, by rw [e, e1, e2, e3, e4, e5, e6, e7, e8, e9, e10]⟩
theorem law_of (H : ∀ S ∈ sets, ∀ G ∈ sets, S.length = G.length → ∀ p, 1 ≤ p → p ≤ 4 → gDrop G_holds [tv S, tv G, nat p] none = some (.bool true, none)) (l : List Int) (hl : l.length ≤ 63) : G_law [.lst (l.map .int)] none = some (.bool true, none) := by
  obtain ⟨d, hd, hG⟩ := draws_of l hl none
  obtain ⟨d0, d1, d2, d3, d4, d5, d6, d7, d8, d9, d10, d11, d12, d13, rfl⟩ := len14 hd
  have m3 : 0 ≤ d0.fmod 3 ∧ d0.fmod 3 < 3 := ⟨Int.fmod_nonneg_of_pos _ (by lia), Int.fmod_lt_of_pos _ (by lia)⟩
  have m2 : 0 ≤ d1.fmod 2 ∧ d1.fmod 2 < 2 := ⟨Int.fmod_nonneg_of_pos _ (by lia), Int.fmod_lt_of_pos _ (by lia)⟩
  have m4 : 0 ≤ (d1.fdiv 2).fmod 2 ∧ (d1.fdiv 2).fmod 2 < 2 := ⟨Int.fmod_nonneg_of_pos _ (by lia), Int.fmod_lt_of_pos _ (by lia)⟩
  obtain ⟨balls, hb, hb2, hb4⟩ : ∃ b : Nat, d0.fmod 3 + 2 = (b : Int) ∧ 2 ≤ b ∧ b ≤ 4 := ⟨(d0.fmod 3 + 2).toNat, by lia, by omega, by lia⟩
  obtain ⟨many, hm, hm1, hm4⟩ : ∃ b : Nat, d1.fmod 2 + 3 = (b : Int) ∧ 3 ≤ b ∧ b ≤ 4 := ⟨(d1.fmod 2 + 3).toNat, by lia, by omega, by lia⟩
  obtain ⟨few, hf, hf1, hf4⟩ : ∃ b : Nat, (d1.fdiv 2).fmod 2 + 1 = (b : Int) ∧ 1 ≤ b ∧ b ≤ 2 := ⟨((d1.fdiv 2).fmod 2 + 1).toNat, by omega, by omega, by omega⟩
  obtain ⟨S, hS, hSl, _, eS⟩ := state_of (held := []) (balls := balls) (l := [d2, d3, d4, d5]) none hb2 hb4 rfl (by simp) (by simp) (by simp)
  obtain ⟨gs1, gs2, gs3, gs4⟩ := good_of hS
  obtain ⟨uf1, uf2, uf3⟩ := up_facts (p := many) gs1 gs2
  obtain ⟨G₁, hG₁, hG₁l, _, eG₁⟩ := state_of (held := upOf many S) (balls := balls) (l := [d6, d7, d8, d9]) none hb2 hb4 rfl (by lia) (up_nodup uf1) (fun k hk => by have := uf3 k hk; lia)
  obtain ⟨G₂, hG₂, hG₂l, _, eG₂⟩ := state_of (held := []) (balls := balls) (l := [d10, d11, d12, d13]) none hb2 hb4 rfl (by simp) (by simp) (by simp)
  have H₁ := H S hS G₁ hG₁ (by lia) many (by lia) hm4
  have H₂ := H S hS G₂ hG₂ (by lia) few (by omega) (by omega)
  generalize hD : DV.lst (List.map DV.int [d0, d1, d2, d3, d4, d5, d6, d7, d8, d9, d10, d11, d12, d13]) = D at hG
  have e : F_law ⟨[.lst (l.map .int), .undef, .undef, .undef, .undef, .undef, .undef, .undef, .undef], none, none⟩ = some (.ret (.bool true), ⟨[.lst (l.map .int), D, nat balls, nat many, nat few, tv S, tv G₁, tv G₂, .undef], none, none⟩) := by
    unfold F_law
    rw [seq_next (set_eq (d := D) rfl (call_eq (lcons_eq (p_eq rfl) rfl) hG))]
    rw [seq_next (set_eq (d := nat balls) rfl (p_eq (by subst hD; show some (DV.int (d0.fmod 3 + 2)) = _; rw [hb]; rfl)))]
    rw [seq_next (set_eq (d := nat many) rfl (p_eq (by subst hD; show some (DV.int (d1.fmod 2 + 3)) = _; rw [hm]; rfl)))]
    rw [seq_next (set_eq (d := nat few) rfl (p_eq (by subst hD; show some (DV.int ((d1.fdiv 2).fmod 2 + 1)) = _; rw [hf]; rfl)))]
    rw [seq_next (set_eq (d := tv S) rfl (call_eq (lcons_eq (p_eq rfl) (lcons_eq (p_eq rfl) (lcons_eq (p_eq (d := .lst ([d2, d3, d4, d5].map .int)) (by subst hD; rfl)) rfl))) eS))]
    rw [seq_next (set_eq (d := tv G₁) rfl (call_eq (lcons_eq (p_eq (d := tv (upOf many S)) (up_comp rfl (show 8 < 9 by decide) (fun _ => rfl) (fun _ => rfl))) (lcons_eq (p_eq rfl) (lcons_eq (p_eq (d := .lst ([d6, d7, d8, d9].map .int)) (by subst hD; rfl)) rfl))) eG₁))]
    rw [seq_next (set_eq (d := tv G₂) rfl (call_eq (lcons_eq (p_eq rfl) (lcons_eq (p_eq rfl) (lcons_eq (p_eq (d := .lst ([d10, d11, d12, d13].map .int)) (by subst hD; rfl)) rfl))) eG₂)), seq_nil]
    exact ret_eq (and_eq (call_eq (lcons_eq (p_eq rfl) (lcons_eq (p_eq rfl) (lcons_eq (p_eq rfl) rfl))) H₁) (call_eq (lcons_eq (p_eq rfl) (lcons_eq (p_eq rfl) (lcons_eq (p_eq rfl) rfl))) H₂))
  show (F_law ⟨[.lst (l.map .int), .undef, .undef, .undef, .undef, .undef, .undef, .undef, .undef], none, none⟩).bind _ = _
  rw [e]; rfl
end Mine
end

section
open PySem PySem.Calls PyProof.Rows PySem.W
set_option maxRecDepth 100000
namespace Mine
noncomputable def lettersL (S : List Nat) : List Nat := (List.range 8).map fun k => if k ∈ S then 65 + k else 97 + k
theorem asStrs_map (l : List (List Nat)) : asStrs (l.map fun x => DV.str (ofL x)) = some (l.map ofL) := by
  induction l with
  | nil => rfl
  | cons a r ih => show (asStrs (r.map fun x => DV.str (ofL x))).map _ = _; rw [ih]; rfl
theorem flat_single (f : Nat → Nat) (l : List Nat) : (l.map fun k => [f k]).flatten = l.map f := by
  induction l with
  | nil => rfl
  | cons a r ih => rw [List.map_cons, List.flatten_cons, ih]; rfl
theorem joinOk_nil {ys : List (List Nat)} (h : (ys.map List.length).sum ≤ 1000) : JoinOk (Str.ofString "") (ys.map ofL) = true := by
  unfold JoinOk
  rw [StrLaws.joinTotal]
  have e : (Str.ofString "").length = 0 := rfl
  have e2 : ((ys.map ofL).map (·.length)).sum = (ys.map List.length).sum := by
    rw [List.map_map]
    exact congrArg List.sum (List.map_congr_left fun k _ => len_ofL k)
  rw [e, e2]
  unfold Builtin.Str.tooLong
  have h3 : sizeLine = 16777216 := rfl
  simp only [Nat.mul_zero, Nat.add_zero, gt_iff_lt, Bool.not_eq_true', decide_eq_false_iff_not]
  lia
theorem letters_of (S : List Nat) (α : Air) : G_letters [tv S] α = some (.str (ofL (lettersL S)), α) := by
  have c := mComp_nat (j := 1) (vis := [0]) (fi := mCall rangeD (lCons (mInt 8) lNil)) (fc := mAndT) (fe := mIf (mCmp .In (mVar 1) (mVar 0)) (mCall chrD (lCons (mBin .Add (mInt 65) (mVar 1)) lNil)) (mCall chrD (lCons (mBin .Add (mInt 97) (mVar 1)) lNil)))
    (ρ := [tv S, .undef]) (a := .rng 0 1 8) (S := List.range 8) (p := fun _ => true) (g := fun k => .str (ofL [if k ∈ S then 65 + k else 97 + k])) (rng_nat (a := 0) (b := 8) (by lia) (by lia)) (by have := items_rng (a := 0) (n := 8); rw [range0] at this; exact this) (show 1 < 2 by decide) (fun _ _ => rfl) (fun k hk _ => ⟨?_, rfl⟩)
  · rw [List.filter_eq_self.mpr (fun _ _ => rfl)] at c
    have e : F_letters ⟨[tv S, .undef], none, α⟩ = some (.ret (.str (ofL (lettersL S))), ⟨[tv S, .undef], none, α⟩) := by
      unfold F_letters
      rw [seq_nil]
      refine ret_eq (p_eq ?_)
      unfold mMeth
      rw [show mStr "" [tv S, .undef] = some (.str (Str.ofString "")) from rfl, Option.bind_some, if_pos (show isStr (.str (Str.ofString "")) = true from rfl), mlc_eq (r := lNil) (ds := []) c rfl, Option.bind_some]
      have h1 : (List.range 8).map (fun k => DV.str (ofL [if k ∈ S then 65 + k else 97 + k])) = ((List.range 8).map fun k => [if k ∈ S then 65 + k else 97 + k]).map fun x => DV.str (ofL x) := by rw [List.map_map]; rfl
      show (asStrs ((List.range 8).map (fun k => DV.str (ofL [if k ∈ S then 65 + k else 97 + k])))).bind (fun ys => if JoinOk (Str.ofString "") ys = true ∧ (Txt.join (Str.ofString "") ys).length ≤ sizeB then some (DV.str (Txt.join (Str.ofString "") ys)) else none) = _
      rw [h1, asStrs_map, Option.bind_some, join_nil, flat_single, if_pos ⟨joinOk_nil (by rw [List.map_map]; exact (by decide : ((List.range 8).map (fun _ => 1)).sum ≤ 1000)), by rw [len_ofL]; simp; decide⟩]
      rfl
    show (F_letters ⟨[tv S, .undef], none, α⟩).bind _ = _
    rw [e]; rfl
  · have hk : k < 8 := List.mem_range.mp hk
    have c1 : mCmp .In (mVar 1) (mVar 0) (inner [0] 1 (nat k) [tv S, .undef]) = some (decide (k ∈ S)) := by
      show inD (k : Int) (S.map nat) = _
      rw [inD_nat]
    unfold mIf
    rw [c1, Option.bind_some]
    by_cases h : k ∈ S
    · rw [decide_eq_true h, if_pos rfl, if_pos h]
      refine mcall_eq (ds := [nat (65 + k)]) (mlc_eq (mbin_eq (a := .int 65) (b := nat k) rfl rfl ?_) rfl) ?_
      · rfl
      · show (if 0 ≤ ((65 + k : Nat) : Int) ∧ ((65 + k : Nat) : Int) ≤ 1114111 then some (DV.str ⟨#[((65 + k : Nat) : Int).toNat]⟩) else none) = _
        rw [if_pos (by lia)]; rfl
    · rw [decide_eq_false h, if_neg (by decide), if_neg h]
      refine mcall_eq (ds := [nat (97 + k)]) (mlc_eq (mbin_eq (a := .int 97) (b := nat k) rfl rfl ?_) rfl) ?_
      · rfl
      · show (if 0 ≤ ((97 + k : Nat) : Int) ∧ ((97 + k : Nat) : Int) ≤ 1114111 then some (DV.str ⟨#[((97 + k : Nat) : Int).toNat]⟩) else none) = _
        rw [if_pos (by lia)]; rfl
theorem bl_subst : BlE G_subst := bl_fn (by
  unfold F_subst
  exact bl_seq (bl_if (bl_pt _) (bl_seq (bl_ret (bl_p _)) bl_nil) bl_nil) (bl_seq (bl_if (bl_pt _) (bl_seq (bl_ret (bl_p _)) bl_nil) bl_nil) (bl_seq (bl_ret (bl_p _)) bl_nil)))
noncomputable def sub (x y : Nat) : Nat := if x = y then 0 else if x % 32 = y % 32 then 1 else 2
noncomputable def lets : List Nat := (List.range 8).map (65 + ·) ++ (List.range 8).map (97 + ·)
theorem lets_sub : lets.all (fun x => lets.all fun y => isIntR (G_subst [.str (ofL [x]), .str (ofL [y])] none) (sub x y : Nat)) = true := by decide +kernel
theorem sub_all {x : Nat} (hx : x ∈ lets) : (lets.all fun y => isIntR (G_subst [.str (ofL [x]), .str (ofL [y])] none) (sub x y : Nat)) = true := by
  have := List.all_eq_true.mp lets_sub x hx
  exact this
theorem sub_of {x y : Nat} (hx : x ∈ lets) (hy : y ∈ lets) (α : Air) : G_subst [.str (ofL [x]), .str (ofL [y])] α = some (nat (sub x y), α) := by
  have h := sub_all hx
  rw [List.all_eq_true] at h
  exact prod_pass bl_subst (isIntR_is (h y hy)) α
end Mine
end

section
open PySem PySem.Calls PyProof.Rows PySem.W
set_option maxRecDepth 100000
namespace Mine
noncomputable def dc : List Nat → List Nat → Nat
  | a :: A, b :: B => (if a = b then 0 else 1) + dc A B
  | _, _ => 0
noncomputable def cc (A B : List Nat) (k : Nat) : Nat := dc (A.take k) (B.take k)
noncomputable def DD (A B : List Nat) (i j : Nat) : Nat := cc A B (min i j) + 2 * (max i j - min i j)
theorem dc_append : ∀ {A B A' B' : List Nat}, A.length = B.length → dc (A ++ A') (B ++ B') = dc A B + dc A' B'
  | [], [], _, _, _ => by simp [dc]
  | a :: A, b :: B, _, _, h => by
    simp only [List.cons_append, dc]
    rw [dc_append (by simpa using h)]; lia
  | [], _ :: _, _, _, h => by simp at h
  | _ :: _, [], _, _, h => by simp at h
theorem dc_le : ∀ (A B : List Nat), dc A B ≤ A.length
  | [], _ => by simp [dc]
  | _ :: _, [] => by simp [dc]
  | a :: A, b :: B => by
    have := dc_le A B
    simp only [dc, List.length_cons]
    split <;> lia
theorem dc_self : ∀ (A : List Nat), dc A A = 0
  | [] => rfl
  | a :: A => by simp [dc, dc_self A]
theorem cc_zero (A B : List Nat) : cc A B 0 = 0 := by unfold cc; simp [dc]
theorem cc_succ {A B : List Nat} {k x y : Nat} (hl : A.length = B.length) (hx : A[k]? = some x) (hy : B[k]? = some y) : cc A B (k + 1) = cc A B k + (if x = y then 0 else 1) := by
  unfold cc
  rw [List.take_add_one, List.take_add_one, hx, hy, dc_append (by simp; lia)]
  simp [dc]
theorem cc_le (A B : List Nat) (k : Nat) : cc A B k ≤ k := by
  unfold cc
  exact Nat.le_trans (dc_le _ _) (by simp; lia)
theorem DD_step {A B : List Nat} {i j x y : Nat} (hl : A.length = B.length) (hi : B[i]? = some y) (hj : A[j]? = some x) (hs : sub y x = if i = j then (if x = y then 0 else 1) else 2) :
    min (min (if j = 0 then 2 * i else DD A B (i + 1) j) (DD A B i (j + 1)) + 2) (DD A B i j + sub y x) = DD A B (i + 1) (j + 1) := by
  rw [hs]
  unfold DD
  rcases Nat.lt_trichotomy i j with h | h | h
  · obtain ⟨x', hx'⟩ : ∃ x', A[i]? = some x' := ⟨_, List.getElem?_eq_getElem (by have := (List.getElem?_eq_some_iff.mp hj).1; lia)⟩
    have c := cc_succ hl hx' hi
    have : (if x' = y then 0 else 1) ≤ 1 := by split <;> lia
    rw [if_neg (by lia), if_neg (by lia)]
    rw [show min (i + 1) j = i + 1 by lia, show max (i + 1) j = j by lia, show min i (j + 1) = i by lia, show max i (j + 1) = j + 1 by lia, show min i j = i by lia, show max i j = j by lia, show min (i + 1) (j + 1) = i + 1 by lia, show max (i + 1) (j + 1) = j + 1 by lia]
    lia
  · subst h
    have c := cc_succ hl hj hi
    have : (if x = y then 0 else 1) ≤ 1 := by split <;> lia
    rw [if_pos rfl]
    rw [show min (i + 1) i = i by lia, show max (i + 1) i = i + 1 by lia, show min i (i + 1) = i by lia, show max i (i + 1) = i + 1 by lia, show min i i = i by lia, show max i i = i by lia, show min (i + 1) (i + 1) = i + 1 by lia, show max (i + 1) (i + 1) = i + 1 by lia]
    by_cases hi0 : i = 0
    · subst hi0
      rw [if_pos rfl]
      have := cc_zero A B
      lia
    · rw [if_neg hi0]
      lia
  · obtain ⟨y', hy'⟩ : ∃ y', B[j]? = some y' := ⟨_, List.getElem?_eq_getElem (by have := (List.getElem?_eq_some_iff.mp hi).1; lia)⟩
    have c := cc_succ hl hj hy'
    have : (if x = y' then 0 else 1) ≤ 1 := by split <;> lia
    rw [if_neg (by lia : ¬ i = j)]
    rw [show min (i + 1) j = j by lia, show max (i + 1) j = i + 1 by lia, show min i (j + 1) = j + 1 by lia, show max i (j + 1) = i by lia, show min i j = j by lia, show max i j = i by lia, show min (i + 1) (j + 1) = j + 1 by lia, show max (i + 1) (j + 1) = i + 1 by lia]
    by_cases hj0 : j = 0
    · subst hj0
      rw [if_pos rfl]
      have := cc_zero A B
      lia
    · rw [if_neg hj0]
      lia
noncomputable def rw' (A B : List Nat) (i j t : Nat) : Nat := if t < j then DD A B (i + 1) (t + 1) else DD A B i (t + 1)
noncomputable def rowD (A B : List Nat) (m i j : Nat) : List DV := (List.range m).map fun t => nat (rw' A B i j t)
theorem rowD_get {A B : List Nat} {m i j : Nat} (h : j < m) : (rowD A B m i j)[j]? = some (nat (DD A B i (j + 1))) := by
  unfold rowD
  rw [List.getElem?_map, List.getElem?_range h]
  unfold rw'
  simp
theorem rowD_set {A B : List Nat} {m i j : Nat} : (rowD A B m i j).set j (nat (DD A B (i + 1) (j + 1))) = rowD A B m i (j + 1) := by
  apply List.ext_getElem?
  intro t
  unfold rowD
  rw [List.getElem?_set, List.getElem?_map, List.getElem?_map]
  by_cases e : j = t
  · subst e
    rw [if_pos rfl]
    by_cases h : j < m
    · rw [List.getElem?_range h]
      simp [h, rw']
    · have : (List.range m)[j]? = none := List.getElem?_eq_none (by simp; lia)
      simp [h]
  · rw [if_neg e]
    by_cases h : t < m
    · rw [List.getElem?_range h]
      simp only [Option.map_some]
      unfold rw'
      by_cases h2 : t < j
      · rw [if_pos h2, if_pos (by lia)]
      · rw [if_neg h2, if_neg (by lia)]
    · rw [show (List.range m)[t]? = none from List.getElem?_eq_none (by simp; lia)]; rfl
theorem rowD_next {A B : List Nat} {m i : Nat} : rowD A B m i m = rowD A B m (i + 1) 0 := by
  unfold rowD
  refine List.map_congr_left fun t ht => ?_
  have := List.mem_range.mp ht
  unfold rw'
  rw [if_pos this, if_neg (by lia)]
structure Lett (A B : List Nat) : Prop where
  la : ∀ x ∈ A, x ∈ lets
  lb : ∀ x ∈ B, x ∈ lets
  eq : A.length = B.length
  cost : ∀ (i j x y : Nat), A[j]? = some x → B[i]? = some y → sub y x = if i = j then (if x = y then 0 else 1) else 2
theorem idx_str {A : List Nat} {j x : Nat} (h : A[j]? = some x) (hl : A.length ≤ 8) : idxD (.str (ofL A)) (nat j) = some (.str (ofL [x])) := by
  show (if (ofL A).length ≤ sizeB then (at? (ofL A).cps.toList (j : Int)).map fun c => DV.str ⟨#[c]⟩ else none) = _
  rw [if_pos (by rw [len_ofL]; exact Nat.le_trans hl (by decide))]
  unfold at?
  rw [if_pos (by lia), Int.toNat_natCast, show (ofL A).cps.toList[j]? = some x from h]; rfl
theorem min_nat (a b : Nat) : minD [nat a, nat b] = some (nat (min a b)) := by
  show some (DV.int (if (b : Int) < (a : Int) then (b : Int) else (a : Int))) = some (DV.int ((min a b : Nat) : Int))
  congr 2
  split <;> lia
theorem aug_dist (a b : Nat) : binD .Add (nat a) (nat b) = some (nat (a + b)) := by
  show some (DV.int _) = some (DV.int _)
  congr 2
theorem bin_eq {op : Operator} {f g : List DV → Air → Option (DV × Air)} {ρ : List DV} {α β γ : Air} {a b d : DV} (h1 : f ρ α = some (a, β)) (h2 : g ρ β = some (b, γ)) (h3 : binD op a b = some d) : gBin op f g ρ α = some (d, γ) := by
  unfold gBin; rw [h1, Option.bind_some, h2, Option.bind_some, h3]; rfl
theorem setO_eq {i k : Nat} {f : List DV → Option DV} {ρ ds : List DV} {α : Air} {d : DV} (hne : (k != i) = true) (h : f (ρ.set k (.lst ds)) = some d) (hf : flat d = true) : kSetO i f ⟨ρ, some (k, .lst ds), α⟩ = some (.next, ⟨ρ.set i d, some (k, .lst ds), α⟩) := by
  unfold kSetO
  rw [show ownL ⟨ρ, some (k, .lst ds), α⟩ = some (k, ds) from rfl, Option.bind_some]
  dsimp only
  rw [if_pos hne, h, Option.bind_some, if_pos hf]
theorem put_eq {k j : Nat} {f g : List DV → Option DV} {ρ ds : List DV} {α : Air} {d : DV} (h : f ρ = some d) (hg : g ρ = some (nat j)) (hj : j < ds.length) : kPut k f g ⟨ρ, some (k, .lst ds), α⟩ = some (.next, ⟨ρ, some (k, .lst (ds.set j d)), α⟩) := by
  unfold kPut
  rw [show ownL ⟨ρ, some (k, .lst ds), α⟩ = some (k, ds) from rfl, Option.bind_some]
  dsimp only
  rw [if_pos (by simp), h, Option.bind_some, hg, Option.bind_some]
  show (if 0 ≤ (j : Int) ∧ (j : Int) < ds.length then some (Fl.next, _) else none) = _
  rw [if_pos (by lia)]; rfl
section
variable {F G H : SF} {ρ ds : List DV} {own : Option (Nat × OwnK)} {α α' : Air} {i k j : Nat} {d : DV} {r : Option (Fl × St)}
theorem st_set {f : List DV → Air → Option (DV × Air)} (ho : ownOff ⟨ρ, own, α⟩ i = true) (h : f ρ α = some (d, α')) (q : G ⟨ρ.set i d, own, α'⟩ = r) : kSeq (kSet i f) G ⟨ρ, own, α⟩ = r := (seq_next (set_eq ho h)).trans q
theorem st_setp {f : List DV → Option DV} (ho : ownOff ⟨ρ, own, α⟩ i = true) (h : f ρ = some d) (q : G ⟨ρ.set i d, own, α⟩ = r) : kSeq (kSet i (gP f)) G ⟨ρ, own, α⟩ = r := (seq_next (set_eq ho (p_eq h))).trans q
theorem st_setO {f : List DV → Option DV} (hne : (k != i) = true) (h : f (ρ.set k (.lst ds)) = some d) (hf : flat d = true) (q : G ⟨ρ.set i d, some (k, .lst ds), α⟩ = r) : kSeq (kSetO i f) G ⟨ρ, some (k, .lst ds), α⟩ = r := (seq_next (setO_eq hne h hf)).trans q
theorem st_put {f g : List DV → Option DV} (h : f ρ = some d) (hg : g ρ = some (nat j)) (hj : j < ds.length) (q : G ⟨ρ, some (k, .lst (ds.set j d)), α⟩ = r) : kSeq (kPut k f g) G ⟨ρ, some (k, .lst ds), α⟩ = r := (seq_next (put_eq h hg hj)).trans q
theorem st_aug {op : Operator} {f : List DV → Air → Option (DV × Air)} {a e : DV} (ho : ownOff ⟨ρ, own, α⟩ i = true) (ha : mVar i ρ = some a) (h : f ρ α = some (e, α')) (hr : augD op a e = some d) (q : G ⟨ρ.set i d, own, α'⟩ = r) : kSeq (kAug op i f) G ⟨ρ, own, α⟩ = r := (seq_next (aug_eq ho ha h hr)).trans q
theorem st_expr {f : List DV → Air → Option (DV × Air)} (h : f ρ α = some (d, α')) (q : G ⟨ρ, own, α'⟩ = r) : kSeq (kExpr f) G ⟨ρ, own, α⟩ = r := (seq_next (expr_eq h)).trans q
theorem st_ret {f : List DV → Air → Option (DV × Air)} (h : f ρ α = some (d, α')) : kSeq (kRet f) G ⟨ρ, own, α⟩ = some (.ret d, ⟨ρ, own, α'⟩) := seq_ret (ret_eq h)
theorem st_ifT {t : List DV → Air → Option (Bool × Air)} {σ' : St} (h : t ρ α = some (true, α')) (hF : F ⟨ρ, own, α'⟩ = some (.next, σ')) (q : H σ' = r) : kSeq (kIf t F G) H ⟨ρ, own, α⟩ = r := (seq_next ((if_t h).trans hF)).trans q
theorem st_ifF {t : List DV → Air → Option (Bool × Air)} {σ' : St} (h : t ρ α = some (false, α')) (hF : G ⟨ρ, own, α'⟩ = some (.next, σ')) (q : H σ' = r) : kSeq (kIf t F G) H ⟨ρ, own, α⟩ = r := (seq_next ((if_f h).trans hF)).trans q
theorem st_ifN {t : List DV → Air → Option (Bool × Air)} (h : t ρ α = some (false, α')) (q : H ⟨ρ, own, α'⟩ = r) : kSeq (kIf t F kNil) H ⟨ρ, own, α⟩ = r := (seq_next ((if_f h).trans rfl)).trans q
theorem st_ifR {t : List DV → Air → Option (Bool × Air)} {σ' : St} (h : t ρ α = some (true, α')) (hF : F ⟨ρ, own, α'⟩ = some (.ret d, σ')) : kSeq (kIf t F G) H ⟨ρ, own, α⟩ = some (.ret d, σ') := seq_ret ((if_t h).trans hF)
theorem st_do {σ σ' : St} (h : F σ = some (.next, σ')) (q : G σ' = r) : kSeq F G σ = r := (seq_next h).trans q
end
section
variable {A B : List Nat} {m : Nat} {α : Air} {pre post : DV}
noncomputable def env (A B : List Nat) (pre post : DV) (i res dist : Nat) (mn : Int) (bc x11 x12 x13 : DV) : List DV := [.str (ofL A), .str (ofL B), nat 99, pre, post, .undef, nat res, nat i, bc, nat dist, .int mn, x11, x12, x13]
theorem inner_step (L : Lett A B) (hm : A.length = m) (h8 : m ≤ 8) {i j y : Nat} (hi : B[i]? = some y) (hj : j < m) {mn : Int} {x12 x13 : DV} :
    ∃ mn' y12 y13, mn' ≤ (DD A B (i + 1) (j + 1) : Int) ∧ B_lev_5 ⟨env A B pre post i (if j = 0 then 2 * i else DD A B (i + 1) j) (DD A B i j) mn (.str (ofL [y])) (nat j) x12 x13, some (5, .lst (rowD A B m i j)), α⟩ = some (.next, ⟨env A B pre post i (DD A B (i + 1) (j + 1)) (DD A B i (j + 1)) mn' (.str (ofL [y])) (nat j) y12 y13, some (5, .lst (rowD A B m i (j + 1))), α⟩) := by
  obtain ⟨x, hx⟩ : ∃ x, A[j]? = some x := ⟨_, List.getElem?_eq_getElem (by lia)⟩
  have hc := L.cost i j x y hx hi
  have hD := DD_step L.eq hi hx hc
  have hxl : x ∈ lets := L.la x (List.mem_of_getElem? hx)
  have hyl : y ∈ lets := L.lb y (List.mem_of_getElem? hi)
  generalize hres : (if j = 0 then 2 * i else DD A B (i + 1) j) = res at hD
  generalize hn : DD A B (i + 1) (j + 1) = nw at hD
  have key : ∀ b : Bool, decide ((nw : Int) < mn) = b → ∃ z : Int, z ≤ (nw : Int) ∧ B_lev_5 ⟨env A B pre post i res (DD A B i j) mn (.str (ofL [y])) (nat j) x12 x13, some (5, .lst (rowD A B m i j)), α⟩ = some (.next, ⟨env A B pre post i nw (DD A B i (j + 1)) z (.str (ofL [y])) (nat j) (nat (DD A B i j + sub y x)) (nat (min res (DD A B i (j + 1)) + 2)), some (5, .lst (rowD A B m i (j + 1))), α⟩) := by
    intro b hb
    unfold B_lev_5 env
    have hset := rowD_set (A := A) (B := B) (m := m) (i := i) (j := j)
    rw [hn] at hset
    refine ⟨if b then (nw : Int) else mn, ?_, ?_⟩
    · cases b with
      | true => exact Int.le_refl _
      | false => have := of_decide_eq_false hb; show mn ≤ (nw : Int); lia
    refine st_set (d := nat (DD A B i j + sub y x)) rfl (bin_eq (a := nat (DD A B i j)) (b := nat (sub y x)) (p_eq rfl) (call_eq (lcons_eq (p_eq rfl) (lcons_eq (p_eq (midx_eq rfl rfl (idx_str hx (by lia)))) rfl)) (sub_of hyl hxl α)) (aug_dist _ _)) ?_
    refine st_setO (d := nat (DD A B i (j + 1))) rfl (midx_eq (a := .lst (rowD A B m i j)) (b := nat j) rfl rfl ?_) rfl ?_
    · show (if (rowD A B m i j).length ≤ sizeB then at? (rowD A B m i j) (j : Int) else none) = _
      rw [if_pos (by unfold rowD; rw [List.length_map, List.length_range]; exact Nat.le_trans h8 (by decide))]
      unfold at?
      rw [if_pos (by lia), Int.toNat_natCast, rowD_get hj]
    refine st_setp (d := nat (min res (DD A B i (j + 1)) + 2)) rfl (mbin_eq (a := nat (min res (DD A B i (j + 1)))) (b := .int 2) (mcall_eq (ds := [nat res, nat (DD A B i (j + 1))]) rfl (min_nat _ _)) rfl (aug_dist _ 2)) ?_
    refine st_setp (d := nat nw) rfl (mcall_eq (ds := [nat (min res (DD A B i (j + 1)) + 2), nat (DD A B i j + sub y x)]) rfl (by rw [min_nat, hD])) ?_
    refine st_put (d := nat nw) (j := j) rfl rfl (by unfold rowD; rw [List.length_map, List.length_range]; exact hj) ?_
    rw [hset, seq_nil]
    cases b with
    | true => exact (if_t (pt_eq (mcmp_eq (a := nat nw) (b := .int mn) rfl rfl (show cmpD .Lt (nat nw) (.int mn) = some _ from congrArg some hb)))).trans ((seq_nil).trans (set_eq (d := nat nw) rfl (p_eq rfl)))
    | false => exact (if_f (pt_eq (mcmp_eq (a := nat nw) (b := .int mn) rfl rfl (show cmpD .Lt (nat nw) (.int mn) = some _ from congrArg some hb)))).trans rfl
  obtain ⟨z, hz, e⟩ := key _ rfl
  exact ⟨z, _, _, hz, e⟩
theorem range_cons (j n : Nat) : ((List.range (n + 1)).map (j + ·)) = j :: (List.range n).map (j + 1 + ·) := by
  rw [List.range_succ_eq_map, List.map_cons, List.map_map]
  congr 1
  exact List.map_congr_left fun k _ => by simp only [Function.comp]; lia
theorem inner_go (L : Lett A B) (hm : A.length = m) (h8 : m ≤ 8) {i y : Nat} (hi : B[i]? = some y) : ∀ (n j : Nat) (mn : Int) (x11 x12 x13 : DV), j + n = m → (j ≠ 0 → mn ≤ 99) → m ≠ 0 →
    ∃ mn' y11 y12 y13, mn' ≤ 99 ∧ forGo (tName 11) B_lev_5 kNil (((List.range n).map (j + ·)).map nat) ⟨env A B pre post i (if j = 0 then 2 * i else DD A B (i + 1) j) (DD A B i j) mn (.str (ofL [y])) x11 x12 x13, some (5, .lst (rowD A B m i j)), α⟩ = some (.next, ⟨env A B pre post i (DD A B (i + 1) m) (DD A B i m) mn' (.str (ofL [y])) y11 y12 y13, some (5, .lst (rowD A B m i m)), α⟩)
  | 0, j, mn, x11, x12, x13, hjn, hmn, h0 => by
    obtain rfl : j = m := by lia
    exact ⟨mn, x11, x12, x13, hmn h0, by rw [if_neg h0]; rfl⟩
  | n + 1, j, mn, x11, x12, x13, hjn, hmn, h0 => by
    obtain ⟨mn', y12, y13, h1, h2⟩ := inner_step (α := α) (pre := pre) (post := post) L hm h8 hi (show j < m by lia) (mn := mn) (x12 := x12) (x13 := x13)
    have hDD : DD A B (i + 1) (j + 1) ≤ 99 := by
      unfold DD
      have := cc_le A B (min (i + 1) (j + 1))
      have := (List.getElem?_eq_some_iff.mp hi).1
      have := L.eq
      omega
    obtain ⟨mn'', z11, z12, z13, h3, h4⟩ := inner_go L hm h8 hi n (j + 1) mn' (nat j) y12 y13 (by lia) (fun _ => by lia) h0
    refine ⟨mn'', z11, z12, z13, h3, ?_⟩
    rw [range_cons, List.map_cons]
    show (B_lev_5 ⟨env A B pre post i (if j = 0 then 2 * i else DD A B (i + 1) j) (DD A B i j) mn (.str (ofL [y])) (nat j) x12 x13, some (5, .lst (rowD A B m i j)), α⟩).bind _ = _
    rw [h2]
    rw [if_neg (by lia)] at h4
    exact h4
theorem dd_zero (A B : List Nat) (i : Nat) : DD A B i 0 = 2 * i := by
  unfold DD
  rw [show min i 0 = 0 by lia, cc_zero]; lia
theorem range0' (n : Nat) : (List.range n).map ((0 : Nat) + ·) = List.range n := by
  have : (fun x : Nat => 0 + x) = id := by funext x; simp
  rw [this, List.map_id]
theorem st_set2 {F : SF} {ρ : List DV} {own : Option (Nat × OwnK)} {α : Air} {i j : Nat} {f : List DV → Option DV} {d : DV} {r : Option (Fl × St)} (h1 : ownOff ⟨ρ, own, α⟩ i = true) (h2 : ownOff ⟨ρ, own, α⟩ j = true) (h : f ρ = some d) (q : F ⟨(ρ.set i d).set j d, own, α⟩ = r) : kSeq (kSet2 i j (gP f)) F ⟨ρ, own, α⟩ = r := by
  refine st_do ?_ q
  unfold kSet2
  rw [h1, h2, if_pos (show (true && true) = true from rfl)]
  dsimp only
  rw [p_eq h]; rfl
theorem for_eq {T : DV → St → Option St} {f : List DV → Air → Option (DV × Air)} {F G : SF} {ρ ds : List DV} {own : Option (Nat × OwnK)} {α β : Air} {d : DV} (h : f ρ α = some (d, β)) (hd : itemsD d = some ds) : kFor T f F G ⟨ρ, own, α⟩ = forGo T F G ds ⟨ρ, own, β⟩ := by
  unfold kFor
  dsimp only
  rw [h, Option.bind_some]
  dsimp only
  rw [hd]; rfl
theorem items_rng0 (n : Nat) : itemsD (.rng 0 1 n) = some ((List.range n).map nat) := by
  have := items_rng (a := 0) (n := n); rw [range0'] at this; exact this
theorem len_str (A : List Nat) : lenD [.str (ofL A)] = some (nat A.length) := by
  show some (DV.int ((ofL A).length : Int)) = _
  rw [len_ofL]; rfl
theorem range_1 (b : Int) : rangeD [.int b] = rngD 0 b 1 := rfl
theorem range_2 (a b : Int) : rangeD [.int a, .int b] = rngD a b 1 := rfl
theorem range_3 (a b c : Int) : rangeD [.int a, .int b, .int c] = rngD a b c := rfl
theorem range_one {b : Nat} (hb : b ≤ 1000) : rangeD [nat b] = some (.rng 0 1 b) := by
  have h := rng_nat (a := 0) (Nat.zero_le _) hb
  rw [Nat.sub_zero] at h
  exact (range_1 b).trans h
noncomputable def env' (A B : List Nat) (pre post : DV) (res : Nat) (v7 v8 v9 v10 v11 v12 v13 : DV) : List DV := [.str (ofL A), .str (ofL B), nat 99, pre, post, .undef, nat res, v7, v8, v9, v10, v11, v12, v13]
theorem outer_step (L : Lett A B) (hm : A.length = m) (h8 : m ≤ 8) (h0 : m ≠ 0) {i : Nat} (hi : i < m) {res : Nat} {v8 v9 v10 v11 v12 v13 : DV} :
    ∃ w8 w9 w10 w11 w12 w13, B_lev_6 ⟨env' A B pre post res (nat i) v8 v9 v10 v11 v12 v13, some (5, .lst (rowD A B m i 0)), α⟩ = some (.next, ⟨env' A B pre post (DD A B (i + 1) m) (nat i) w8 w9 w10 w11 w12 w13, some (5, .lst (rowD A B m (i + 1) 0)), α⟩) := by
  obtain ⟨y, hy⟩ : ∃ y, B[i]? = some y := ⟨_, List.getElem?_eq_getElem (by have := L.eq; lia)⟩
  obtain ⟨mn, y11, y12, y13, h1, h2⟩ := inner_go (α := α) (pre := pre) (post := post) L hm h8 hy m 0 9223372036854775807 v11 v12 v13 (by lia) (fun h => absurd rfl h) h0
  rw [if_pos rfl, dd_zero, range0'] at h2
  refine ⟨.str (ofL [y]), nat (DD A B i m), .int mn, y11, y12, y13, ?_⟩
  unfold B_lev_6 env'
  refine st_setp (d := .str (ofL [y])) rfl (midx_eq (a := .str (ofL B)) (b := nat i) rfl rfl (idx_str hy (by have := L.eq; lia))) ?_
  refine st_set2 (d := nat (2 * i)) rfl rfl (mbin_eq (a := nat i) (b := .int 2) rfl rfl ?_) ?_
  · show (if (i : Int).natAbs < 2 ^ 60 then some (DV.int ((i : Int) * 2)) else none) = some (DV.int ((2 * i : Nat) : Int))
    rw [if_pos (by lia)]
    congr 2; lia
  refine st_setp (d := .int 9223372036854775807) rfl rfl ?_
  refine st_do ((for_eq (d := .rng 0 1 m) (p_eq ?_) (items_rng0 m)).trans h2) ?_
  · exact mcall_eq (ds := [nat m]) (mlc_eq (mcall_eq (ds := [.str (ofL A)]) rfl ((len_str A).trans (congrArg (fun k => some (nat k)) hm))) rfl) (range_one (by lia))
  rw [rowD_next, seq_nil]
  refine (if_f (pt_eq (mcmp_eq (a := .int mn) (b := nat 99) (t := false) rfl rfl ?_))).trans rfl
  show some (decide (mn > 99)) = some false
  rw [decide_eq_false (by lia)]
theorem outer_go (L : Lett A B) (hm : A.length = m) (h8 : m ≤ 8) (h0 : m ≠ 0) : ∀ (n i : Nat) (res : Nat) (v7 v8 v9 v10 v11 v12 v13 : DV), i + n = m → (n = 0 → res = DD A B m m) →
    ∃ w7 w8 w9 w10 w11 w12 w13, forGo (tName 7) B_lev_6 kNil (((List.range n).map (i + ·)).map nat) ⟨env' A B pre post res v7 v8 v9 v10 v11 v12 v13, some (5, .lst (rowD A B m i 0)), α⟩ = some (.next, ⟨env' A B pre post (DD A B m m) w7 w8 w9 w10 w11 w12 w13, some (5, .lst (rowD A B m m 0)), α⟩)
  | 0, i, res, v7, v8, v9, v10, v11, v12, v13, hin, hres => by
    obtain rfl : i = m := by lia
    exact ⟨v7, v8, v9, v10, v11, v12, v13, by rw [← hres rfl]; rfl⟩
  | n + 1, i, res, v7, v8, v9, v10, v11, v12, v13, hin, hres => by
    obtain ⟨w8, w9, w10, w11, w12, w13, h1⟩ := outer_step (α := α) (pre := pre) (post := post) L hm h8 h0 (show i < m by lia) (res := res) (v8 := v8) (v9 := v9) (v10 := v10) (v11 := v11) (v12 := v12) (v13 := v13)
    obtain ⟨u7, u8, u9, u10, u11, u12, u13, h2⟩ := outer_go L hm h8 h0 n (i + 1) (DD A B (i + 1) m) (nat i) w8 w9 w10 w11 w12 w13 (by lia) (fun e => by rw [show i + 1 = m by lia])
    refine ⟨u7, u8, u9, u10, u11, u12, u13, ?_⟩
    rw [range_cons, List.map_cons]
    show (B_lev_6 ⟨env' A B pre post res (nat i) v8 v9 v10 v11 v12 v13, some (5, .lst (rowD A B m i 0)), α⟩).bind _ = _
    rw [h1]; exact h2
end
end Mine
end

section
open PySem PySem.Calls PyProof.Rows PySem.W
set_option maxRecDepth 100000
namespace Mine
section
variable {A B : List Nat} {m : Nat} {α : Air} {pre post : DV}
theorem tru_str {l : List Nat} (h : l ≠ []) : truD (.str (ofL l)) = some true := by
  show some (((ofL l).length : Int) != 0) = _
  rw [len_ofL]
  have := List.length_pos_iff.mpr h
  congr 1
  simp; lia
theorem slice_from {l : List Nat} {k : Nat} (h : k ≤ l.length) : sliceD (.str (ofL l)) (some (k : Int)) none = some (.str (ofL (l.drop k))) := by
  show some (DV.str (Txt.slice (ofL l) (some (k : Int)) none)) = _
  rw [slice_eq]
  have e1 : clipN (some (k : Int)) 0 l.length = k := clipN_nat.trans (Nat.min_eq_left h)
  have e2 : clipN none l.length l.length = l.length := rfl
  rw [e1, e2, ← List.length_drop, List.take_length]
theorem slice_to {l : List Nat} {q : Nat} (h : q < l.length) (h0 : 0 < q) : sliceD (.str (ofL l)) none (some (-(q : Int))) = some (.str (ofL (l.take (l.length - q)))) := by
  show some (DV.str (Txt.slice (ofL l) none (some (-(q : Int))))) = _
  rw [slice_eq]
  have e1 : clipN (some (-(q : Int))) l.length l.length = l.length - q := clipN_neg h0
  have e2 : clipN none 0 l.length = 0 := rfl
  rw [e1, e2, List.drop_zero, Nat.sub_zero]
theorem slice_all {l : List Nat} : sliceD (.str (ofL l)) none none = some (.str (ofL l)) := by
  show some (DV.str (Txt.slice (ofL l) none none)) = _
  rw [slice_eq]
  have e1 : clipN none l.length l.length = l.length := rfl
  have e2 : clipN none 0 l.length = 0 := rfl
  rw [e1, e2, List.drop_zero, Nat.sub_zero, List.take_length]
theorem eq_str (x y : Nat) : cmpD .Eq (.str (ofL [x])) (.str (ofL [y])) = some (decide (x = y)) := by
  show some (ofL [x] == ofL [y]) = _
  rw [beq_ofL]; congr 1
  exact decide_eq_decide.mpr (by simp)
theorem mtru_eq {f : List DV → Option DV} {ρ : List DV} {a : DV} {b : Bool} (h : f ρ = some a) (h' : truD a = some b) : mTru f ρ = some b := by unfold mTru; rw [h]; exact h'
theorem mand_t {f g : List DV → Option Bool} {ρ : List DV} {b : Bool} (h : f ρ = some true) (h' : g ρ = some b) : mAnd f g ρ = some b := by unfold mAnd; rw [h]; exact h'
theorem mand_f {f g : List DV → Option Bool} {ρ : List DV} (h : f ρ = some false) : mAnd f g ρ = some false := by unfold mAnd; rw [h]; rfl
theorem mand_last {f : List DV → Option Bool} {ρ : List DV} {b : Bool} (h : f ρ = some b) : mAnd f mAndT ρ = some b := by unfold mAnd; rw [h]; cases b <;> rfl
theorem mor_f {f g : List DV → Option Bool} {ρ : List DV} {b : Bool} (h : f ρ = some false) (h' : g ρ = some b) : mOr f g ρ = some b := by unfold mOr; rw [h]; exact h'
theorem mor_t {f g : List DV → Option Bool} {ρ : List DV} (h : f ρ = some true) : mOr f g ρ = some true := by unfold mOr; rw [h]; rfl
theorem mnot_eq {f : List DV → Option Bool} {ρ : List DV} {b : Bool} (h : f ρ = some b) : mNot f ρ = some (!b) := by unfold mNot; rw [h]; rfl
theorem wh_t {t : List DV → Air → Option (Bool × Air)} {F : SF} {ρ : List DV} {own : Option (Nat × OwnK)} {α β : Air} {k : Nat} {σ' : St} (ht : t ρ α = some (true, β)) (hF : F ⟨ρ, own, β⟩ = some (.next, σ')) : whGo t F (k + 1) ⟨ρ, own, α⟩ = whGo t F k σ' := by
  rw [whGo]; dsimp only
  rw [ht, Option.bind_some, if_pos rfl]; dsimp only; rw [hF]; rfl
theorem wh_f {t : List DV → Air → Option (Bool × Air)} {F : SF} {ρ : List DV} {own : Option (Nat × OwnK)} {α β : Air} {k : Nat} (ht : t ρ α = some (false, β)) : whGo t F (k + 1) ⟨ρ, own, α⟩ = some (.next, ⟨ρ, own, β⟩) := by
  rw [whGo]; dsimp only
  rw [ht]; rfl
noncomputable def envU (A B : List Nat) (pre post : DV) : List DV := [.str (ofL A), .str (ofL B), nat 99, pre, post, .undef, .undef, .undef, .undef, .undef, .undef, .undef, .undef, .undef]
theorem pre_go (hl : A.length = B.length) (h8 : A.length ≤ 8) (hne : A ≠ B) : ∀ (fuel k : Nat), k + fuel = 9 → A.take k = B.take k →
    ∃ p x y, A[p]? = some x ∧ B[p]? = some y ∧ x ≠ y ∧ A.take p = B.take p ∧ whGo T_lev_2 B_lev_1 fuel ⟨envU A B (nat k) .undef, none, α⟩ = some (.next, ⟨envU A B (nat p) .undef, none, α⟩)
  | fuel, k, hf, ht => by
    have hk : k < A.length := by
      rcases Nat.lt_or_ge k A.length with h | h
      · exact h
      · rw [List.take_of_length_le h, List.take_of_length_le (by lia)] at ht; exact absurd ht hne
    match fuel, hf with
    | 0, hf => omega
    | fuel + 1, hf =>
    obtain ⟨x, hx⟩ : ∃ x, A[k]? = some x := ⟨_, List.getElem?_eq_getElem hk⟩
    obtain ⟨y, hy⟩ : ∃ y, B[k]? = some y := ⟨_, List.getElem?_eq_getElem (by lia)⟩
    have ne1 : A.drop k ≠ [] := fun e => by have := congrArg List.length e; simp at this; lia
    have ne2 : B.drop k ≠ [] := fun e => by have := congrArg List.length e; simp at this; lia
    have t : T_lev_2 (envU A B (nat k) .undef) α = some (decide (x = y), α) := by
      unfold T_lev_2 envU
      refine pt_eq (mand_t (mtru_eq (mslice_eq (a := .str (ofL A)) (l := some (k : Int)) (u := none) rfl rfl rfl (slice_from (by lia))) (tru_str ne1)) (mand_t (mtru_eq (mslice_eq (a := .str (ofL B)) (l := some (k : Int)) (u := none) rfl rfl rfl (slice_from (by lia))) (tru_str ne2)) (mand_last (mcmp_eq (midx_eq (a := .str (ofL A)) (b := nat k) rfl rfl (idx_str hx (by lia))) (midx_eq (a := .str (ofL B)) (b := nat k) rfl rfl (idx_str hy (by lia))) (eq_str x y)))))
    by_cases e : x = y
    · obtain ⟨p, x', y', h1, h2, h3, h4, h5⟩ := pre_go hl h8 hne fuel (k + 1) (by lia) (by rw [List.take_add_one, List.take_add_one, ht, hx, hy, e])
      refine ⟨p, x', y', h1, h2, h3, h4, ?_⟩
      have hb : B_lev_1 ⟨envU A B (nat k) .undef, none, α⟩ = some (.next, ⟨envU A B (nat (k + 1)) .undef, none, α⟩) := by
        unfold B_lev_1 envU
        exact st_aug (d := nat (k + 1)) (a := nat k) (e := .int 1) rfl rfl (p_eq rfl) (show some (DV.int ((k : Int) + 1)) = some (DV.int ((k + 1 : Nat) : Int)) by congr 2) rfl
      rw [decide_eq_true e] at t
      exact (wh_t t hb).trans h5
    · refine ⟨k, x, y, hx, hy, e, ht, ?_⟩
      rw [decide_eq_false e] at t
      exact wh_f t
noncomputable def keep (A : List Nat) (q : Nat) : List Nat := A.take (A.length - q)
theorem mor_post {l : List Nat} {i : Nat} {ρ : List DV} {q : Nat} (hi : mVar i ρ = some (.str (ofL l))) (hq : mVar 4 ρ = some (.int (-(q : Int)))) (h : q < l.length) : mSlice (mVar i) pNo (pAt (mOrV (mVar 4) mNone)) ρ = some (.str (ofL (keep l q))) := by
  by_cases h0 : q = 0
  · subst h0
    refine mslice_eq (l := none) (u := none) hi rfl (mat_eq (a := .none) ?_ rfl) ?_
    · unfold mOrV; rw [hq]; rfl
    · unfold keep; rw [Nat.sub_zero, List.take_length]; exact slice_all
  · refine mslice_eq (l := none) (u := some (-(q : Int))) hi rfl (mat_eq (a := .int (-(q : Int))) ?_ rfl) (slice_to h (by lia))
    unfold mOrV
    rw [hq, Option.bind_some, show truD (.int (-(q : Int))) = some (-(q : Int) != 0) from rfl]
    have : (-(q : Int) != 0) = true := by simp; lia
    rw [this]; rfl
theorem idx_neg {l : List Nat} {q x : Nat} (h : l[l.length - q - 1]? = some x) (hq : q < l.length) (hl : l.length ≤ 8) : idxD (.str (ofL l)) (.int (-(q : Int) - 1)) = some (.str (ofL [x])) := by
  show (if (ofL l).length ≤ sizeB then (at? (ofL l).cps.toList (-(q : Int) - 1)).map fun c => DV.str ⟨#[c]⟩ else none) = _
  rw [if_pos (by rw [len_ofL]; exact Nat.le_trans hl (by decide))]
  unfold at?
  have hlen : (ofL l).cps.toList.length = l.length := rfl
  rw [if_neg (by lia), hlen, if_pos (by lia), show ((-(q : Int) - 1 + (l.length : Int)).toNat) = l.length - q - 1 by lia, show (ofL l).cps.toList[l.length - q - 1]? = some x from h]; rfl
theorem post_go {p : Nat} (hl : A.length = B.length) (h8 : A.length ≤ 8) (hne : A ≠ B) : ∀ (fuel q : Nat), q + fuel = 9 → A.drop (A.length - q) = B.drop (A.length - q) →
    ∃ q', q' < A.length ∧ A.drop (A.length - q') = B.drop (A.length - q') ∧ whGo T_lev_4 B_lev_3 fuel ⟨envU A B (nat p) (.int (-(q : Int))), none, α⟩ = some (.next, ⟨envU A B (nat p) (.int (-(q' : Int))), none, α⟩)
  | fuel, q, hf, ht => by
    have hk : q < A.length := by
      rcases Nat.lt_or_ge q A.length with h | h
      · exact h
      · rw [show A.length - q = 0 by lia] at ht; exact absurd ht hne
    match fuel, hf with
    | 0, hf => omega
    | fuel + 1, hf =>
    obtain ⟨x, hx⟩ : ∃ x, A[A.length - q - 1]? = some x := ⟨_, List.getElem?_eq_getElem (by omega)⟩
    obtain ⟨y, hy⟩ : ∃ y, B[A.length - q - 1]? = some y := ⟨_, List.getElem?_eq_getElem (by omega)⟩
    have ne1 : keep A q ≠ [] := fun e => by have := congrArg List.length e; unfold keep at this; simp at this; lia
    have ne2 : keep B q ≠ [] := fun e => by have := congrArg List.length e; unfold keep at this; simp at this; lia
    have t : T_lev_4 (envU A B (nat p) (.int (-(q : Int)))) α = some (decide (x = y), α) := by
      unfold T_lev_4 envU
      refine pt_eq (mand_t (mtru_eq (mor_post (l := A) rfl rfl hk) (tru_str ne1)) (mand_t (mtru_eq (mor_post (l := B) rfl rfl (by lia)) (tru_str ne2)) (mand_last (mcmp_eq (midx_eq (a := .str (ofL A)) (b := .int (-(q : Int) - 1)) rfl rfl (idx_neg hx (by lia) (by lia))) (midx_eq (a := .str (ofL B)) (b := .int (-(q : Int) - 1)) rfl rfl (idx_neg (by rw [← hl]; exact hy) (by lia) (by lia))) (eq_str x y)))))
    by_cases e : x = y
    · obtain ⟨q', h1, h2, h3⟩ := post_go (p := p) hl h8 hne fuel (q + 1) (by lia) (by
        have e1 : A.length - (q + 1) = A.length - q - 1 := by lia
        have hA := (List.getElem?_eq_some_iff.mp hx)
        have hB := (List.getElem?_eq_some_iff.mp hy)
        obtain ⟨a1, a2⟩ := hA
        obtain ⟨b1, b2⟩ := hB
        rw [e1, List.drop_eq_getElem_cons a1, List.drop_eq_getElem_cons b1, a2, b2, e, show A.length - q - 1 + 1 = A.length - q by lia, ht])
      refine ⟨q', h1, h2, ?_⟩
      have hb : B_lev_3 ⟨envU A B (nat p) (.int (-(q : Int))), none, α⟩ = some (.next, ⟨envU A B (nat p) (.int (-((q + 1 : Nat) : Int))), none, α⟩) := by
        unfold B_lev_3 envU
        exact st_aug (d := .int (-((q + 1 : Nat) : Int))) (a := .int (-(q : Int))) (e := .int 1) rfl rfl (p_eq rfl) (show some (DV.int (-(q : Int) - 1)) = some (DV.int (-((q + 1 : Nat) : Int))) by congr 2; lia) rfl
      rw [decide_eq_true e] at t
      exact (wh_t t hb).trans h3
    · refine ⟨q, hk, ht, ?_⟩
      rw [decide_eq_false e] at t
      exact wh_f t
theorem Lett.drop (L : Lett A B) (p : Nat) : Lett (A.drop p) (B.drop p) :=
  ⟨fun x h => L.la x (List.mem_of_mem_drop h), fun x h => L.lb x (List.mem_of_mem_drop h), by simp [L.eq], fun i j x y h1 h2 => by
    rw [List.getElem?_drop] at h1 h2
    have := L.cost (p + i) (p + j) x y h1 h2
    rw [this]
    by_cases e : i = j
    · rw [if_pos e, if_pos (by lia)]
    · rw [if_neg e, if_neg (by lia)]⟩
theorem Lett.take (L : Lett A B) (p : Nat) : Lett (A.take p) (B.take p) :=
  ⟨fun x h => L.la x (List.mem_of_mem_take h), fun x h => L.lb x (List.mem_of_mem_take h), by simp [L.eq], fun i j x y h1 h2 => by
    rw [List.getElem?_take] at h1 h2
    split at h1
    · split at h2
      · exact L.cost i j x y h1 h2
      · cases h2
    · cases h1⟩
end
end Mine
end

section
open PySem PySem.Calls PyProof.Rows PySem.W
set_option maxRecDepth 100000
namespace Mine
section
variable {A B : List Nat} {m : Nat} {α : Air}
theorem rng_two {m : Nat} (h0 : m ≠ 0) (h8 : m ≤ 8) : rngD 2 (2 * ((m : Int) + 1)) 2 = some (.rng 2 2 m) := by
  have h1 : Builtin.Range.rangeSize 2 (2 * ((m : Int) + 1)) 2 = (m : Int) := by
    unfold Builtin.Range.rangeSize
    rw [if_pos (by decide), if_pos (by lia)]
    lia
  have h2 : Builtin.Range.small 2 (2 * ((m : Int) + 1)) 2 = true := by
    unfold Builtin.Range.small
    rw [h1]
    simp [Builtin.Range.rangeFitsLong]
    lia
  unfold rngD
  rw [h1, h2, if_pos ⟨by decide, by decide, rfl, by lia, by lia⟩]; rfl
theorem row_start (A B : List Nat) (m : Nat) : (rngInts 2 2 m).map DV.int = rowD A B m 0 0 := by
  unfold rngInts rowD
  rw [List.map_map]
  refine List.map_congr_left fun t _ => ?_
  unfold rw'
  rw [if_neg (by lia)]
  show DV.int (2 + (t : Int) * 2) = DV.int ((DD A B 0 (t + 1) : Nat) : Int)
  congr 1
  unfold DD
  rw [show min 0 (t + 1) = 0 by lia, cc_zero, show max 0 (t + 1) = t + 1 by lia]
  lia
theorem row_flat (A B : List Nat) (m i j : Nat) : (rowD A B m i j).all flat = true := by
  unfold rowD
  rw [List.all_map]
  exact List.all_eq_true.mpr fun _ _ => rfl
theorem dd_end (h : A.length = m) (h' : B.length = m) : DD A B m m = dc A B := by
  unfold DD cc
  rw [show min m m = m by lia, show max m m = m by lia, List.take_of_length_le (by lia), List.take_of_length_le (by lia)]
  lia
theorem own_eq {i : Nat} {f : List DV → Option DV} {ρ ds : List DV} {α : Air} (h : f (msk ρ) = some (.lst ds)) (hf : ds.all flat = true) : kOwn i f ⟨ρ, none, α⟩ = some (.next, ⟨ρ.set i .undef, some (i, .lst ds), α⟩) := by
  unfold kOwn
  dsimp only
  rw [h, Option.bind_some]
  dsimp only
  rw [if_pos hf]
theorem lev_of (L : Lett A B) (h8 : A.length ≤ 8) (α : Air) : G_lev [.str (ofL A), .str (ofL B), nat 99] α = some (nat (dc A B), α) := by
  have key : ∃ σ, F_lev ⟨envU A B .undef .undef, none, α⟩ = some (.ret (nat (dc A B)), σ) ∧ σ.air = α := by
    unfold F_lev
    by_cases hne : A = B
    · subst hne
      refine ⟨⟨_, _, _⟩, st_ifR (pt_eq (mcmp_eq (a := .str (ofL A)) (b := .str (ofL A)) rfl rfl ?_)) (st_ret (p_eq (d := nat (dc A A)) ?_)), rfl⟩
      · show some (ofL A == ofL A) = some true
        rw [beq_ofL, decide_eq_true rfl]
      · rw [dc_self]; rfl
    obtain ⟨p, x, y, hx, hy, hxy, htk, hpre⟩ := pre_go (α := α) L.eq h8 hne 9 0 rfl rfl
    have hpA : p < A.length := (List.getElem?_eq_some_iff.mp hx).1
    have hpB : p < B.length := (List.getElem?_eq_some_iff.mp hy).1
    generalize hA1 : A.drop p = A1
    generalize hB1 : B.drop p = B1
    have L1 : Lett A1 B1 := hA1 ▸ hB1 ▸ L.drop p
    have l1 : A1.length ≤ 8 := by rw [← hA1]; simp; lia
    have hne1 : A1 ≠ B1 := fun e => by
      have h1 : A1[0]? = some x := by rw [← hA1, List.getElem?_drop]; exact hx
      have h2 : B1[0]? = some y := by rw [← hB1, List.getElem?_drop]; exact hy
      rw [e, h2] at h1
      exact hxy (Option.some.inj h1).symm
    obtain ⟨q, hq, hdr, hpost⟩ := post_go (α := α) (p := p) L1.eq l1 hne1 9 0 rfl (by simp [L1.eq])
    generalize hA2 : keep A1 q = A2
    generalize hB2 : keep B1 q = B2
    have L2 : Lett A2 B2 := by rw [← hA2, ← hB2]; unfold keep; rw [← L1.eq]; exact L1.take _
    generalize hm : A2.length = m
    have hm' : B2.length = m := by rw [← L2.eq, hm]
    have hm0 : m ≠ 0 := by rw [← hm, ← hA2]; unfold keep; simp; lia
    have hm8 : m ≤ 8 := by rw [← hm, ← hA2]; unfold keep; simp; lia
    have hdc : dc A2 B2 = dc A B := by
      have e1 : dc A B = dc A1 B1 := by
        have := dc_append (A := A.take p) (B := B.take p) (A' := A.drop p) (B' := B.drop p) (by simp [L.eq])
        rw [List.take_append_drop, List.take_append_drop, htk, dc_self, hA1, hB1] at this
        lia
      have e2 : dc A1 B1 = dc A2 B2 := by
        have := dc_append (A := A1.take (A1.length - q)) (B := B1.take (A1.length - q)) (A' := A1.drop (A1.length - q)) (B' := B1.drop (A1.length - q)) (by simp [L1.eq])
        rw [List.take_append_drop, List.take_append_drop, hdr, dc_self] at this
        rw [this, ← hA2, ← hB2]
        unfold keep
        rw [← L1.eq]; lia
      lia
    have ne2 : A2 ≠ [] := fun e => by rw [e] at hm; exact hm0 hm.symm
    have ne2' : B2 ≠ [] := fun e => by rw [e] at hm'; exact hm0 hm'.symm
    obtain ⟨w7, w8, w9, w10, w11, w12, w13, hgo⟩ := outer_go (α := α) (pre := nat p) (post := .int (-(q : Int))) L2 hm hm8 hm0 m 0 0 .undef .undef .undef .undef .undef .undef .undef (by lia) (fun h => absurd h hm0)
    rw [range0'] at hgo
    have lenA : ∀ {ρ : List DV}, mVar 0 ρ = some (.str (ofL A2)) → mCall lenD (lCons (mVar 0) lNil) ρ = some (nat m) := fun h => mcall_eq (mlc_eq (r := lNil) (ds := []) h rfl) (hm ▸ len_str A2)
    have lenB : ∀ {ρ : List DV}, mVar 1 ρ = some (.str (ofL B2)) → mCall lenD (lCons (mVar 1) lNil) ρ = some (nat m) := fun h => mcall_eq (mlc_eq (r := lNil) (ds := []) h rfl) (hm' ▸ len_str B2)
    refine ⟨⟨env' A2 B2 (nat p) (.int (-(q : Int))) (DD A2 B2 m m) w7 w8 w9 w10 w11 w12 w13, some (5, .lst (rowD A2 B2 m m 0)), α⟩, ?_, rfl⟩
    refine st_ifN (pt_eq (mcmp_eq (a := .str (ofL A)) (b := .str (ofL B)) (t := false) rfl rfl (by show some (ofL A == ofL B) = _; rw [beq_ofL, decide_eq_false hne]))) ?_
    refine st_setp (d := nat 0) rfl rfl ?_
    refine st_do hpre ?_
    refine st_setp (d := .str (ofL A1)) rfl (mslice_eq (a := .str (ofL A)) (l := some (p : Int)) (u := none) rfl rfl rfl (hA1 ▸ slice_from (by lia))) ?_
    refine st_setp (d := .str (ofL B1)) rfl (mslice_eq (a := .str (ofL B)) (l := some (p : Int)) (u := none) rfl rfl rfl (hB1 ▸ slice_from (by lia))) ?_
    refine st_setp (d := .int 0) rfl rfl ?_
    refine st_do hpost ?_
    refine st_setp (d := .str (ofL A2)) rfl (hA2 ▸ mor_post rfl rfl hq) ?_
    refine st_setp (d := .str (ofL B2)) rfl (hB2 ▸ mor_post rfl rfl (by rw [← L1.eq]; exact hq)) ?_
    refine st_ifN (pt_eq (mor_f (mnot_eq (b := true) (mtru_eq (a := .str (ofL A2)) rfl (tru_str ne2))) (mor_f (mnot_eq (b := true) (mtru_eq (a := .str (ofL B2)) rfl (tru_str ne2'))) rfl))) ?_
    refine st_ifN (pt_eq (mor_f (mcmp_eq (t := false) (lenA rfl) rfl ?_) (mor_f (mcmp_eq (t := false) (lenB rfl) rfl ?_) rfl))) ?_
    · show some (decide ((m : Int) > 40)) = _
      rw [decide_eq_false (by lia)]
    · show some (decide ((m : Int) > 40)) = _
      rw [decide_eq_false (by lia)]
    refine st_ifN (pt_eq (mcmp_eq (t := false) (lenB rfl) (lenA rfl) ?_)) ?_
    · show some (decide ((m : Int) < (m : Int))) = _
      rw [decide_eq_false (by lia)]
    refine st_ifN (pt_eq (mcmp_eq (a := .int 0) (t := false) (mbin_eq (a := .int ((m : Int) - (m : Int))) (b := .int 2) (mbin_eq (lenB rfl) (lenA rfl) rfl) rfl ?_) rfl ?_)) ?_
    · show (if ((m : Int) - (m : Int)).natAbs < 2 ^ 60 then some (DV.int (((m : Int) - (m : Int)) * 2)) else none) = _
      rw [if_pos (by lia)]; congr 2; lia
    · rfl
    refine st_do (own_eq (ds := rowD A2 B2 m 0 0) ?_ (row_flat _ _ _ _ _)) ?_
    · refine mcall_eq (ds := [.rng 2 2 m]) (mlc_eq (mcall_eq (ds := [.int 2, .int (2 * ((m : Int) + 1)), .int 2]) (mlc_eq rfl (mlc_eq (mbin_eq (a := .int 2) (b := .int ((m : Int) + 1)) rfl (mbin_eq (a := nat m) (b := .int 1) (lenA rfl) rfl rfl) rfl) (mlc_eq rfl rfl))) ((range_3 _ _ _).trans (rng_two hm0 hm8))) rfl) ?_
      show some (DV.lst ((rngInts 2 2 m).map DV.int)) = _
      rw [row_start A2 B2]
    refine st_setp (d := nat 0) rfl rfl ?_
    refine st_do (Eq.trans (for_eq (d := .rng 0 1 m) (p_eq (mcall_eq (ds := [nat m]) (mlc_eq (r := lNil) (ds := []) (lenB ?_) rfl) (range_one (by lia)))) (items_rng0 m)) hgo) ?_
    · rfl
    refine st_ret (p_eq ?_)
    rw [← hdc, ← dd_end hm hm']
    rfl
  obtain ⟨σ, e, ha⟩ := key
  show (F_lev ⟨envU A B .undef .undef, none, α⟩).bind _ = _
  rw [e, ← ha]; rfl
end
end Mine
end

section
open PySem PySem.Calls PyProof.Rows PySem.W
set_option maxRecDepth 100000
namespace Mine
noncomputable def memG : List Nat → Nat → Bool
  | [], _ => false
  | g :: r, k => if k < g then false else if k = g then true else memG r (k - g - 1)
noncomputable def insG (p : Nat) : List Nat → List Nat
  | [] => [p]
  | g :: r => if p < g then p :: (g - p - 1) :: r else g :: insG (p - g - 1) r
noncomputable def stepG (gs : List Nat) (h : Nat) : List Nat := match gs with
  | [] => []
  | g :: r => if h = 0 then (g - 1) :: r else insG (h - 1) r
noncomputable def wid (gs : List Nat) : Nat := (rowL gs).length
theorem wid_cons (g : Nat) (r : List Nat) : wid (g :: r) = g + 1 + wid r := by
  show (List.replicate g 32 ++ 111 :: rowL r).length = _
  unfold wid; simp; lia
theorem mem_ins {p : Nat} : ∀ {gs : List Nat} (k : Nat), memG gs p = false → memG (insG p gs) k = (k == p || memG gs k)
  | [], k, _ => by
    unfold insG memG memG
    rw [Bool.eq_iff_iff]; simp; lia
  | g :: r, k, h => by
    unfold memG at h
    unfold insG
    split
    · rename_i hp
      rw [Bool.eq_iff_iff]
      simp only [memG, Bool.or_eq_true, beq_iff_eq]
      by_cases h1 : k < p
      · rw [if_pos h1, if_pos (by lia)]; simp; lia
      · rw [if_neg h1]
        by_cases h2 : k = p
        · rw [if_pos h2]; simp [h2]
        · rw [if_neg h2]
          by_cases h3 : k < g
          · rw [if_pos (by omega), if_pos h3]; simp [h2]
          · rw [if_neg (by omega), if_neg h3]
            by_cases h4 : k = g
            · rw [if_pos (by lia), if_pos h4]; simp
            · rw [if_neg (by lia), if_neg h4, show k - p - 1 - (g - p - 1) - 1 = k - g - 1 by lia]; simp [h2]
    · rename_i hp
      rw [if_neg hp] at h
      split at h
      · cases h
      · rename_i hpg
        unfold memG
        by_cases h1 : k < g
        · rw [if_pos h1, if_pos h1]
          have : (k == p) = false := by simp; lia
          rw [this]; rfl
        · rw [if_neg h1, if_neg h1]
          by_cases h2 : k = g
          · rw [if_pos h2, if_pos h2]; simp
          · rw [if_neg h2, if_neg h2, mem_ins (k - g - 1) h]
            have : (k - g - 1 == p - g - 1) = (k == p) := by
              rw [Bool.eq_iff_iff]; simp; lia
            rw [this]
theorem len_ins (p : Nat) : ∀ (gs : List Nat), (insG p gs).length = gs.length + 1
  | [] => rfl
  | g :: r => by
    unfold insG
    split
    · rfl
    · rw [List.length_cons, len_ins _ r]; rfl
theorem wid_ins (p : Nat) : ∀ (gs : List Nat), memG gs p = false → wid (insG p gs) ≤ max (wid gs) (p + 1)
  | [], _ => by unfold insG; rw [wid_cons]; have : wid [] = 0 := rfl; lia
  | g :: r, h => by
    unfold memG at h
    unfold insG
    split
    · rw [wid_cons, wid_cons, wid_cons]; lia
    · rename_i hp
      rw [if_neg hp] at h
      split at h
      · cases h
      · have := wid_ins (p - g - 1) r h
        rw [wid_cons, wid_cons]; omega
theorem mem_wid : ∀ {gs : List Nat} {k : Nat}, memG gs k = true → k < wid gs
  | [], _, h => by cases h
  | g :: r, k, h => by
    unfold memG at h
    rw [wid_cons]
    split at h
    · cases h
    · split at h
      · lia
      · have := mem_wid h; omega
theorem mem_ext : ∀ {a b : List Nat}, (∀ k, memG a k = memG b k) → a = b
  | [], [], _ => rfl
  | [], g :: r, h => by have := h g; simp [memG] at this
  | g :: r, [], h => by have := h g; simp [memG] at this
  | g :: r, g' :: r', h => by
    have hg : g = g' := by
      have h1 := h g
      have h2 := h g'
      simp only [memG, Nat.lt_irrefl, if_false, if_true] at h1 h2
      rcases Nat.lt_trichotomy g g' with q | q | q
      · rw [if_pos q] at h1; cases h1
      · exact q
      · rw [if_pos q] at h2; cases h2
    subst hg
    congr 1
    refine mem_ext fun k => ?_
    have := h (g + 1 + k)
    simp only [memG] at this
    rw [if_neg (by lia), if_neg (by lia), if_neg (by lia), if_neg (by lia), show g + 1 + k - g - 1 = k by lia] at this
    exact this
theorem row_get : ∀ (gs : List Nat) (k : Nat), (rowL gs)[k]? = if memG gs k then some 111 else if k < wid gs then some 32 else none
  | [], k => by simp [rowL, memG, wid]
  | g :: r, k => by
    have ih := row_get r (k - g - 1)
    rw [wid_cons]
    unfold rowL memG
    rw [List.getElem?_append, List.length_replicate]
    by_cases h1 : k < g
    · rw [if_pos h1, if_pos h1, if_neg (by decide), if_pos (by lia), List.getElem?_replicate, if_pos h1]
    · rw [if_neg h1, if_neg h1]
      by_cases h2 : k = g
      · rw [if_pos h2, if_pos rfl, show k - g = 0 by lia]; rfl
      · rw [if_neg h2, show k - g = (k - g - 1) + 1 by lia, List.getElem?_cons_succ, ih, show k - g - 1 + 1 - 1 = k - g - 1 by lia]
        by_cases h3 : memG r (k - g - 1) = true
        · rw [if_pos h3, if_pos h3]
        · rw [if_neg h3, if_neg h3]
          by_cases h4 : k - g - 1 < wid r
          · rw [if_pos h4, if_pos (by omega)]
          · rw [if_neg h4, if_neg (by lia)]
theorem row_inj {a b : List Nat} (h : rowL a = rowL b) : a = b := mem_ext fun k => by
  have h1 := row_get a k
  have h2 := row_get b k
  rw [h, h2] at h1
  have hw : wid a = wid b := by unfold wid; rw [h]
  rw [Bool.eq_iff_iff]
  constructor
  · intro q
    rw [if_pos q] at h1
    split at h1
    · assumption
    · split at h1 <;> simp at h1
  · intro q
    rw [if_pos q] at h1
    split at h1
    · assumption
    · split at h1 <;> simp at h1
theorem mem_one (gs : List Nat) (k : Nat) : ((rowL gs).drop k).take 1 = [111] ↔ memG gs k = true := by
  have h := row_get gs k
  have e : ((rowL gs).drop k).take 1 = ((rowL gs)[k]?).toList := by
    have := List.take_add_one (l := (rowL gs).drop k) (i := 0)
    simpa [List.getElem?_drop] using this
  rw [e, h]
  split
  · simp; assumption
  · rename_i h'
    split <;> simp [h']
theorem gaps_mem : ∀ {S : List Nat} {a : Nat}, S.Pairwise (· < ·) → (∀ k ∈ S, a ≤ k) → ∀ k, memG (gapsF a S) k = inS S (a + k)
  | [], a, _, _, k => by simp [gapsF, memG, inS]
  | t :: r, a, hs, ha, k => by
    have hs' := List.pairwise_cons.mp hs
    have hta := ha t (.head _)
    have ih := gaps_mem (a := t + 1) hs'.2 (fun j hj => hs'.1 j hj) (k - (t - a) - 1)
    unfold gapsF memG
    rw [ih]
    unfold inS
    rw [Bool.eq_iff_iff]
    by_cases h1 : k < t - a
    · rw [if_pos h1]
      simp only [Bool.false_eq_true, false_iff, decide_eq_true_eq, List.mem_cons]
      rintro (q | q)
      · lia
      · have := hs'.1 _ q; omega
    · rw [if_neg h1]
      by_cases h2 : k = t - a
      · rw [if_pos h2]
        simp only [true_iff, decide_eq_true_eq, List.mem_cons]
        left; lia
      · rw [if_neg h2, show t + 1 + (k - (t - a) - 1) = a + k by omega]
        simp only [decide_eq_true_eq, List.mem_cons]
        constructor
        · exact .inr
        · rintro (q | q)
          · lia
          · exact q
theorem gaps_len : ∀ (S : List Nat) (a : Nat), (gapsF a S).length = S.length
  | [], _ => rfl
  | t :: r, a => by unfold gapsF; rw [List.length_cons, gaps_len r]; rfl
theorem gaps_wid : ∀ {S : List Nat} {a n : Nat}, S.Pairwise (· < ·) → (∀ k ∈ S, a ≤ k ∧ k < n) → a ≤ n → a + wid (gapsF a S) ≤ n
  | [], a, n, _, _, h => by have : wid (gapsF a []) = 0 := rfl; lia
  | t :: r, a, n, hs, h8, h => by
    have hs' := List.pairwise_cons.mp hs
    have ht := h8 t (.head _)
    have ih := gaps_wid (a := t + 1) (n := n) hs'.2 (fun j hj => ⟨hs'.1 j hj, (h8 j (.tail _ hj)).2⟩) (by lia)
    unfold gapsF
    rw [wid_cons]; lia
end Mine
end

section
open PySem PySem.Calls PyProof.Rows PySem.W
set_option maxRecDepth 100000
namespace Mine
noncomputable def bl (n : Nat) : DV := .str (ofL (List.replicate n 32))
noncomputable def ob : DV := .str (ofL [111])
theorem push_of {its : List DV} {a b : DV} (h : its.length + 1 ≤ 4096) : G_push [.air, a, b] (some its) = match a, b with
    | .undef, _ => G_push [.air, a, b] (some its)
    | _, .undef => G_push [.air, a, b] (some its)
    | a, b => some (.none, some (its ++ [.tup [a, b]])) := by
  have key : a ≠ .undef → b ≠ .undef → G_push [.air, a, b] (some its) = some (.none, some (its ++ [.tup [a, b]])) := by
    intro ha hb
    have e : F_push ⟨[.air, a, b], none, some its⟩ = some (.next, ⟨[.air, a, b], none, some (its ++ [.tup [a, b]])⟩) := by
      unfold F_push
      rw [seq_nil]
      refine expr_eq (d := .none) ?_
      unfold gApp
      rw [show mVar 0 [.air, a, b] = some .air from rfl, Option.bind_some]
      dsimp only
      have h1 : mVar 1 [.air, a, b] = some a := by unfold mVar; cases a <;> first | rfl | exact absurd rfl ha
      have h2 : mVar 2 [.air, a, b] = some b := by unfold mVar; cases b <;> first | rfl | exact absurd rfl hb
      have h3 : gTup (glCons (gP (mVar 1)) (glCons (gP (mVar 2)) glNil)) [.air, a, b] (some its) = some (.tup [a, b], some its) := by
        unfold gTup
        rw [lcons_eq (p_eq h1) (lcons_eq (p_eq h2) rfl), Option.bind_some, if_pos (show ([a, b] : List DV).length ≤ sizeB from (show 2 ≤ sizeB by decide))]
      rw [h3, Option.bind_some]
      dsimp only
      rw [Option.bind_some, if_pos h]
    show (F_push ⟨[.air, a, b], none, some its⟩).bind _ = _
    rw [e]; rfl
  cases a <;> cases b <;> first | rfl | exact key (by simp) (by simp)
theorem pushT {its : List DV} {x y : Str} (h : its.length + 1 ≤ 4096) : G_push [.air, .str x, .str y] (some its) = some (.none, some (its ++ [.tup [.str x, .str y]])) := push_of h
theorem pop_of (its : List DV) : G_popfrom [.air] (some its) = some (.lst its, some []) := rfl
theorem gen_len : ∀ (gs : List Nat), genD lenE (pieces gs) = some (gs.map fun g => nat (g + 1))
  | [] => rfl
  | g :: r => by
    show (if (true && true) = true then (lenE [bl g, ob]).bind _ else none) = _
    rw [if_pos (show (true && true) = true from rfl)]
    have e : lenE [bl g, ob] = some (nat (g + 1)) := by
      refine mbin_eq (a := nat g) (b := nat 1) (mcall_eq (mlc_eq (r := lNil) (ds := []) rfl rfl) ?_) (mcall_eq (mlc_eq (r := lNil) (ds := []) rfl rfl) (len_str [111])) rfl
      have := len_str (List.replicate g 32)
      rwa [List.length_replicate] at this
    rw [e, Option.bind_some, if_pos (show flat (nat (g + 1)) = true from rfl), show genD lenE (r.map piece) = _ from gen_len r]; rfl
theorem sum_wid : ∀ (gs : List Nat), ((gs.map fun g => g + 1).map fun (k : Nat) => (k : Int)).sum = (wid gs : Int)
  | [] => rfl
  | g :: r => by
    rw [List.map_cons, List.map_cons, List.sum_cons, sum_wid r, wid_cons]; lia
theorem le_wid {g : Nat} : ∀ {gs : List Nat}, g ∈ gs → g + 1 ≤ wid gs
  | a :: r, h => by
    rw [wid_cons]
    rcases List.mem_cons.mp h with rfl | h
    · lia
    · have := le_wid h; lia
theorem len_of {gs : List Nat} (h : wid gs ≤ 100) : G_len [.air] (some (pieces gs)) = some (nat (2 + wid gs), some (pieces gs)) := by
  have e : kLen lenE ⟨[.air], none, some (pieces gs)⟩ = some (.ret (nat (2 + wid gs)), ⟨[.air], none, some (pieces gs)⟩) := by
    unfold kLen
    rw [show mVar 0 [DV.air] = some .air from rfl, Option.bind_some]
    dsimp only
    rw [Option.bind_some, gen_len, Option.bind_some]
    have e1 : gs.map (fun g => nat (g + 1)) = (gs.map fun g => g + 1).map nat := by rw [List.map_map]; rfl
    rw [e1, asInts_tv, Option.bind_some, if_pos ?_, sum_wid]
    · rfl
    · rw [List.all_eq_true]
      intro i hi
      obtain ⟨k, hk, rfl⟩ := List.mem_map.mp hi
      obtain ⟨g, hg, rfl⟩ := List.mem_map.mp hk
      have := le_wid hg
      simp; lia
  show (kLen lenE ⟨[.air], none, some (pieces gs)⟩).bind _ = _
  rw [e]; rfl
theorem join2 (a b : List Nat) : Txt.join (Str.ofString "") [ofL a, ofL b] = ofL (a ++ b) := by
  have := join_nil [a, b]
  simpa using this
theorem gen_str : ∀ (gs : List Nat), wid gs ≤ 100 → genD strE (pieces gs) = some (gs.map fun g => .str (ofL (List.replicate g 32 ++ [111])))
  | [], _ => rfl
  | g :: r, h => by
    rw [wid_cons] at h
    show (if (true && true) = true then (strE [bl g, ob]).bind _ else none) = _
    rw [if_pos (show (true && true) = true from rfl)]
    have e : strE [bl g, ob] = some (.str (ofL (List.replicate g 32 ++ [111]))) := by
      show (if ([ofL (List.replicate g 32), ofL [111]].map (·.length)).sum + 2 * (Str.ofString "").length ≤ 1000000 ∧ (Txt.join (Str.ofString "") [ofL (List.replicate g 32), ofL [111]]).length ≤ sizeB then some (DV.str (Txt.join (Str.ofString "") [ofL (List.replicate g 32), ofL [111]])) else none) = _
      rw [join2]
      refine if_pos ⟨?_, ?_⟩
      · simp only [List.map_cons, List.map_nil, List.sum_cons, List.sum_nil, len_ofL, List.length_replicate, List.length_cons, List.length_nil]
        have : (Str.ofString "").length = 0 := rfl
        lia
      · rw [len_ofL]; simp
        exact Nat.le_trans (show g + 1 ≤ 101 by lia) (by decide)
    rw [e, Option.bind_some, if_pos (show flat (.str (ofL (List.replicate g 32 ++ [111]))) = true from rfl), show genD strE (r.map piece) = _ from gen_str r (by lia)]; rfl
theorem flat_row : ∀ (gs : List Nat), (gs.map fun g => List.replicate g 32 ++ [111]).flatten = rowL gs
  | [] => rfl
  | g :: r => by
    rw [List.map_cons, List.flatten_cons, flat_row r]
    show _ = List.replicate g 32 ++ 111 :: rowL r
    simp
theorem sum_len : ∀ (gs : List Nat), ((gs.map fun g => List.replicate g 32 ++ [111]).map List.length).sum = wid gs
  | [] => rfl
  | g :: r => by
    rw [List.map_cons, List.map_cons, List.sum_cons, sum_len r, wid_cons]; simp
theorem str_of {gs : List Nat} (h : wid gs ≤ 100) : G_str [.air] (some (pieces gs)) = some (.str (rowT gs), some (pieces gs)) := by
  have e : kStr strE "" ⟨[.air], none, some (pieces gs)⟩ = some (.ret (.str (rowT gs)), ⟨[.air], none, some (pieces gs)⟩) := by
    unfold kStr
    rw [show mVar 0 [DV.air] = some .air from rfl, Option.bind_some]
    dsimp only
    rw [Option.bind_some, gen_str gs h, Option.bind_some]
    have e1 : gs.map (fun g => DV.str (ofL (List.replicate g 32 ++ [111]))) = (gs.map fun g => List.replicate g 32 ++ [111]).map fun x => DV.str (ofL x) := by rw [List.map_map]; rfl
    rw [e1, asStrs_map, Option.bind_some, join_nil, flat_row, if_pos ⟨joinOk_nil (by rw [sum_len]; lia), by rw [len_ofL]; exact Nat.le_trans (show wid gs ≤ 100 from h) (by decide)⟩]
    rfl
  show (kStr strE "" ⟨[.air], none, some (pieces gs)⟩).bind _ = _
  rw [e]; rfl
theorem pieces_len (gs : List Nat) : (pieces gs).length = gs.length := by unfold pieces; rw [List.length_map]
theorem count_of (gs : List Nat) : countF [.air] (some (pieces gs)) = some (nat gs.length, some (pieces gs)) := by
  show some (DV.int ((pieces gs).length : Int), some (pieces gs)) = _
  rw [pieces_len]; rfl
end Mine
end

section
open PySem PySem.Calls PyProof.Rows PySem.W
set_option maxRecDepth 100000
namespace Mine
theorem o_is : Str.ofString "o" = ofL [111] := by decide +kernel
theorem sp_is : Str.ofString " " = ofL [32] := by decide +kernel
theorem mstr_o (ρ : List DV) : mStr "o" ρ = some ob := by
  unfold mStr
  rw [if_pos (show (Str.ofString "o").length ≤ sizeB by decide +kernel), o_is]; rfl
theorem meth_eq {F : List DV → Air → Option (DV × Air)} {f₀ : List DV → Option DV} {g : List DV → Air → Option (List DV × Air)} {ρ ds : List DV} {α β γ : Air} {d : DV} (h0 : f₀ ρ = some .air) (h1 : g ρ α = some (ds, γ)) (h2 : F (.air :: ds) γ = some (d, β)) : gMethA F f₀ g ρ α = some (d, β) := by
  unfold gMethA
  rw [h0, Option.bind_some]
  dsimp only
  rw [h1, Option.bind_some]; exact h2
theorem for_tup {i j : Nat} {F G : SF} {a b : DV} {r ρ : List DV} {α : Air} {σ' : St} (h : F ⟨(ρ.set i a).set j b, none, α⟩ = some (.next, σ')) : forGo (tTup 2 (tCons (tName i) (tCons (tName j) tNil))) F G (.tup [a, b] :: r) ⟨ρ, none, α⟩ = forGo (tTup 2 (tCons (tName i) (tCons (tName j) tNil))) F G r σ' := by
  show (F ⟨(ρ.set i a).set j b, none, α⟩).bind _ = _
  rw [h]; rfl
theorem slice_bl_to {g p : Nat} (h : p ≤ g) : sliceD (bl g) none (some (p : Int)) = some (bl p) := by
  show some (DV.str (Txt.slice (ofL (List.replicate g 32)) none (some (p : Int)))) = _
  rw [slice_eq]
  have e1 : clipN (some (p : Int)) (List.replicate g 32).length (List.replicate g 32).length = p := clipN_nat.trans (by simp; lia)
  have e2 : clipN none 0 (List.replicate g 32).length = 0 := rfl
  rw [e1, e2, List.drop_zero, Nat.sub_zero, List.take_replicate, show min p g = p by lia]; rfl
theorem slice_bl_from {g p : Nat} (h : p ≤ g) : sliceD (bl g) (some (p : Int)) none = some (bl (g - p)) := by
  show sliceD (.str (ofL (List.replicate g 32))) (some (p : Int)) none = _
  rw [slice_from (by simp; exact h), List.drop_replicate]; rfl
theorem len_bl (g : Nat) : lenD [bl g] = some (nat g) := by
  have := len_str (List.replicate g 32)
  rwa [List.length_replicate] at this
theorem pushB {its : List DV} {g : Nat} (h : its.length + 1 ≤ 4096) : G_push [.air, bl g, ob] (some its) = some (.none, some (its ++ [piece g])) := pushT h
section
variable {P H : DV}
theorem chain_f {ρ : List DV} {k : List DV → Option DV} {p : Int} (hp : mVar 3 ρ = some (.int p)) (h : ¬ 0 ≤ p) : mChain .LtE .Lt (mInt 0) (mVar 3) k ρ = some false := by
  unfold mChain
  rw [show mInt 0 ρ = some (.int 0) from rfl, Option.bind_some, hp, Option.bind_some, show cmpD .LtE (.int 0) (.int p) = some (decide (0 ≤ p)) from rfl, decide_eq_false h]; rfl
theorem chain_t {ρ : List DV} {k : List DV → Option DV} {p : Int} {g : Nat} (hp : mVar 3 ρ = some (.int p)) (h : 0 ≤ p) (hk : k ρ = some (nat g)) : mChain .LtE .Lt (mInt 0) (mVar 3) k ρ = some (decide (p < (g : Int))) := by
  unfold mChain
  rw [show mInt 0 ρ = some (.int 0) from rfl, Option.bind_some, hp, Option.bind_some, show cmpD .LtE (.int 0) (.int p) = some (decide (0 ≤ p)) from rfl, decide_eq_true h, Option.bind_some, if_pos rfl, hk]; rfl
theorem piece_off {g : Nat} {its : List DV} (h : its.length + 1 ≤ 4096) : B_beat_1 ⟨[.air, P, H, .int (-1), bl g, ob], none, some its⟩ = some (.next, ⟨[.air, P, H, .int (-1), bl g, ob], none, some (its ++ [piece g])⟩) := by
  unfold B_beat_1
  refine st_ifF (pt_eq (chain_f (p := -1) rfl (by decide))) (σ' := ⟨[.air, P, H, .int (-1), bl g, ob], none, some its⟩) ?_ ?_
  · refine st_ifN (pt_eq (mcmp_eq (a := .int (-1)) (b := .int 0) (t := false) rfl rfl rfl)) rfl
  · exact st_expr (meth_eq rfl (lcons_eq (p_eq rfl) (lcons_eq (p_eq rfl) rfl)) (pushB h)) rfl
theorem piece_past {g p : Nat} {its : List DV} (h : its.length + 1 ≤ 4096) (hp : g < p) : B_beat_1 ⟨[.air, P, H, nat p, bl g, ob], none, some its⟩ = some (.next, ⟨[.air, P, H, nat (p - g - 1), bl g, ob], none, some (its ++ [piece g])⟩) := by
  unfold B_beat_1
  refine st_ifF (pt_eq ?_) (σ' := ⟨[.air, P, H, nat (p - g - 1), bl g, ob], none, some its⟩) ?_ ?_
  · rw [chain_t (p := (p : Int)) (g := g) rfl (by lia) (mcall_eq (mlc_eq (r := lNil) (ds := []) rfl rfl) (len_bl g)), decide_eq_false (by lia)]
  · refine st_ifT (pt_eq (mcmp_eq (a := nat p) (b := .int 0) (t := true) rfl rfl ?_)) ?_ rfl
    · show some (decide ((p : Int) ≥ 0)) = _
      rw [decide_eq_true (by lia)]
    · refine st_aug (a := nat p) (e := nat (g + 1)) (d := nat (p - g - 1)) rfl rfl (p_eq (mbin_eq (a := nat g) (b := nat 1) (mcall_eq (mlc_eq (r := lNil) (ds := []) rfl rfl) (len_bl g)) rfl rfl)) ?_ rfl
      show some (DV.int ((p : Int) - ((g + 1 : Nat) : Int))) = some (DV.int ((p - g - 1 : Nat) : Int))
      congr 2; omega
  · exact st_expr (meth_eq rfl (lcons_eq (p_eq rfl) (lcons_eq (p_eq rfl) rfl)) (pushB h)) rfl
theorem piece_in {g p : Nat} {its : List DV} (h : its.length + 2 ≤ 4096) (hp : p < g) : B_beat_1 ⟨[.air, P, H, nat p, bl g, ob], none, some its⟩ = some (.next, ⟨[.air, P, H, .int (-1), bl (g - p - 1), ob], none, some (its ++ [piece p] ++ [piece (g - p - 1)])⟩) := by
  unfold B_beat_1
  refine st_ifT (pt_eq ?_) (σ' := ⟨[.air, P, H, .int (-1), bl (g - p - 1), ob], none, some (its ++ [piece p])⟩) ?_ ?_
  · rw [chain_t (p := (p : Int)) (g := g) rfl (by lia) (mcall_eq (mlc_eq (r := lNil) (ds := []) rfl rfl) (len_bl g)), decide_eq_true (by lia)]
  · refine st_expr (meth_eq rfl (lcons_eq (p_eq (mslice_eq (a := bl g) (l := none) (u := some (p : Int)) rfl rfl rfl (slice_bl_to (by lia)))) (lcons_eq (p_eq (mstr_o _)) rfl)) (pushB (by lia))) ?_
    refine st_setp (d := bl (g - p - 1)) rfl (mslice_eq (a := bl g) (l := some ((p + 1 : Nat) : Int)) (u := none) rfl (mat_eq (a := nat (p + 1)) (mbin_eq (a := nat p) (b := nat 1) rfl rfl rfl) rfl) rfl ?_) ?_
    · exact slice_bl_from (by lia)
    · exact st_setp (d := .int (-1)) rfl rfl rfl
  · exact st_expr (meth_eq rfl (lcons_eq (p_eq rfl) (lcons_eq (p_eq rfl) rfl)) (pushB (by simp; lia))) rfl
theorem off_go : ∀ (r : List Nat) (its : List DV) (v4 v5 : DV), its.length + r.length ≤ 4096 → ∃ w4 w5, forGo (tTup 2 (tCons (tName 4) (tCons (tName 5) tNil))) B_beat_1 kNil (pieces r) ⟨[.air, P, H, .int (-1), v4, v5], none, some its⟩ = some (.next, ⟨[.air, P, H, .int (-1), w4, w5], none, some (its ++ pieces r)⟩)
  | [], its, v4, v5, _ => ⟨v4, v5, by unfold pieces; simp; rfl⟩
  | g :: r, its, v4, v5, h => by
    simp only [List.length_cons] at h
    obtain ⟨w4, w5, e⟩ := off_go r (its ++ [piece g]) (bl g) ob (by simp; lia)
    refine ⟨w4, w5, ?_⟩
    refine (for_tup (piece_off (by lia))).trans ?_
    rw [show forGo _ _ _ (r.map piece) _ = _ from e]
    unfold pieces; simp
theorem in_go : ∀ (r : List Nat) (p : Nat) (its : List DV) (v4 v5 : DV), memG r p = false → its.length + r.length + 1 ≤ 4096 →
    ∃ pl w4 w5 its', forGo (tTup 2 (tCons (tName 4) (tCons (tName 5) tNil))) B_beat_1 kNil (pieces r) ⟨[.air, P, H, nat p, v4, v5], none, some its⟩ = some (.next, ⟨[.air, P, H, .int pl, w4, w5], none, some its'⟩) ∧
      ((pl = -1 ∧ its' = its ++ pieces (insG p r)) ∨ ∃ q : Nat, pl = (q : Int) ∧ q ≤ p ∧ its' ++ [piece q] = its ++ pieces (insG p r) ∧ its'.length + 1 ≤ 4096)
  | [], p, its, v4, v5, _, h => ⟨(p : Int), v4, v5, its, rfl, .inr ⟨p, rfl, Nat.le_refl _, rfl, by simpa using h⟩⟩
  | g :: r, p, its, v4, v5, hm, h => by
    simp only [List.length_cons] at h
    unfold memG at hm
    by_cases h1 : p < g
    · obtain ⟨w4, w5, e⟩ := off_go (P := P) (H := H) r (its ++ [piece p] ++ [piece (g - p - 1)]) (bl (g - p - 1)) ob (by simp; lia)
      refine ⟨-1, w4, w5, _, (for_tup (piece_in (by lia) h1)).trans e, .inl ⟨rfl, ?_⟩⟩
      unfold insG
      rw [if_pos h1]
      unfold pieces; simp
    · rw [if_neg h1] at hm
      split at hm
      · cases hm
      · obtain ⟨pl, w4, w5, its', e, q⟩ := in_go r (p - g - 1) (its ++ [piece g]) (bl g) ob hm (by simp; lia)
        refine ⟨pl, w4, w5, its', (for_tup (piece_past (by lia) (by lia))).trans e, ?_⟩
        unfold insG
        rw [if_neg h1]
        rcases q with ⟨q1, q2⟩ | ⟨q, q1, q2, q3, q4⟩
        · exact .inl ⟨q1, by rw [q2]; unfold pieces; simp⟩
        · exact .inr ⟨q, q1, by omega, by rw [q3]; unfold pieces; simp, q4⟩
end
theorem fold_rep : ∀ (q : Nat) (acc : Array Nat), ((List.replicate q (ofL [32]).cps).foldl (· ++ ·) acc).toList = acc.toList ++ List.replicate q 32
  | 0, acc => by simp
  | q + 1, acc => by
    rw [List.replicate_succ, List.foldl_cons, fold_rep q, List.replicate_succ]
    simp [ofL]
theorem mul_bl {q : Nat} (h : q ≤ 100) : binD .Mult (.str (ofL [32])) (nat q) = some (bl q) := by
  have e : Txt.mul (ofL [32]) (q : Int) = ofL (List.replicate q 32) := by
    unfold Txt.mul
    by_cases h1 : (q : Int) < 1
    · rw [if_pos h1, show q = 0 by lia]; rfl
    · rw [if_neg h1]
      by_cases h2 : q = 1
      · subst h2; rfl
      · rw [if_neg (by rw [len_ofL]; simp; lia), Int.toNat_natCast]
        have := fold_rep q #[]
        refine congrArg Str.mk ?_
        rw [← Array.toList_inj, this]; simp
  show (if (ofL [32]).length ≤ 1 ∧ (q : Int) ≤ 4096 ∧ 0 ≤ (q : Int) ∧ (Txt.mul (ofL [32]) (q : Int)).length ≤ sizeB then some (DV.str (Txt.mul (ofL [32]) (q : Int))) else none) = _
  rw [e, if_pos ⟨by decide, by lia, by lia, by rw [len_ofL, List.length_replicate]; exact Nat.le_trans h (by decide)⟩]; rfl
theorem slice_tail {xs : List DV} : sliceD (.lst xs) (some 1) none = some (.lst (xs.drop 1)) := by
  show some (DV.lst (pick xs (some 1) none)) = _
  rw [pick_eq]
  have e1 : clipN none xs.length xs.length = xs.length := rfl
  cases xs with
  | nil => rfl
  | cons a r =>
    have e2 : clipN (some 1) 0 (a :: r).length = 1 := (clipN_nat (k := 1)).trans (Nat.min_eq_left (Nat.succ_le_succ (Nat.zero_le _)))
    rw [e1, e2]; simp
theorem lst_eq {f : List DV → Air → Option (DV × Air)} {ρ : List DV} {α β : Air} {ds : List DV} (h : f ρ α = some (.lst ds, β)) : gLst f ρ α = some (.lst ds, β) := by
  unfold gLst; rw [h]; rfl
theorem beat_of {g : Nat} {r : List Nat} {h : Nat} {its : List DV} (hw : wid (g :: r) ≤ 100) (hh : h ≤ 100) (hl : its.length + r.length + 3 ≤ 4096) (h0 : h = 0 → 0 < g) (h1 : 0 < h → memG r (h - 1) = false) :
    G_beat [.air, .lst (pieces (g :: r)), nat h] (some its) = some (.none, some (its ++ pieces (stepG (g :: r) h))) := by
  have fin : ∃ σ, F_beat ⟨[.air, .lst (pieces (g :: r)), nat h, .undef, .undef, .undef], none, some its⟩ = some (.next, σ) ∧ σ.air = some (its ++ pieces (stepG (g :: r) h)) := by
    by_cases hz : h = 0
    · subst hz
      obtain ⟨w4, w5, e⟩ := off_go (P := .lst (pieces (g :: r))) (H := nat 0) r (its ++ [piece (g - 1)]) .undef .undef (by simp; lia)
      refine ⟨⟨[.air, .lst (pieces (g :: r)), nat 0, .int (-1), w4, w5], none, some (its ++ [piece (g - 1)] ++ pieces r)⟩, ?_, ?_⟩
      · unfold F_beat
        refine st_ifT (σ' := ⟨[.air, .lst (pieces (g :: r)), nat 0, .undef, .undef, .undef], none, some (its ++ [piece (g - 1)])⟩) (pt_eq (mcmp_eq (a := nat 0) (b := .int 0) (t := true) rfl rfl rfl)) ?_ ?_
        · refine st_expr (meth_eq rfl (lcons_eq (p_eq (mslice_eq (a := bl g) (l := some 1) (u := none) (midx_eq (a := piece g) (b := .int 0) (midx_eq (a := .lst (pieces (g :: r))) (b := .int 0) rfl rfl ?_) rfl rfl) rfl rfl (slice_bl_from (p := 1) (h0 rfl)))) (lcons_eq (p_eq (mstr_o _)) rfl)) (pushB (by lia))) rfl
          show (if (pieces (g :: r)).length ≤ sizeB then at? (pieces (g :: r)) 0 else none) = _
          rw [if_pos (by rw [pieces_len]; exact Nat.le_trans (show (g :: r).length ≤ 4096 by simp; lia) (by decide))]; rfl
        · refine st_setp (d := .int (-1)) rfl rfl ?_
          refine st_do (Eq.trans (for_eq (lst_eq (p_eq (mslice_eq (a := .lst (pieces (g :: r))) (l := some 1) (u := none) rfl rfl rfl slice_tail))) rfl) e) ?_
          exact st_ifN (pt_eq (mcmp_eq (a := .int (-1)) (b := .int 0) (t := false) rfl rfl rfl)) rfl
      · unfold stepG pieces; simp
    · obtain ⟨pl, w4, w5, its', e, q⟩ := in_go (P := .lst (pieces (g :: r))) (H := nat h) r (h - 1) its .undef .undef (h1 (by lia)) (by lia)
      have hst : stepG (g :: r) h = insG (h - 1) r := by unfold stepG; dsimp only; rw [if_neg hz]
      rw [hst]
      rcases q with ⟨q1, q2⟩ | ⟨q, q1, q2, q3, q4⟩
      · refine ⟨⟨[.air, .lst (pieces (g :: r)), nat h, .int pl, w4, w5], none, some its'⟩, ?_, by rw [← q2]⟩
        unfold F_beat
        refine st_ifN (pt_eq (mcmp_eq (a := nat h) (b := .int 0) (t := false) rfl rfl ?_)) ?_
        · show some ((h : Int) == 0) = _
          congr 1; simp; lia
        refine st_setp (d := nat (h - 1)) rfl (mbin_eq (a := nat h) (b := .int 1) rfl rfl ?_) ?_
        · show some (DV.int ((h : Int) - 1)) = some (DV.int ((h - 1 : Nat) : Int))
          congr 2; lia
        refine st_do (Eq.trans (for_eq (lst_eq (p_eq (mslice_eq (a := .lst (pieces (g :: r))) (l := some 1) (u := none) rfl rfl rfl slice_tail))) rfl) e) ?_
        exact st_ifN (pt_eq (mcmp_eq (a := .int pl) (b := .int 0) (t := false) rfl rfl (by rw [q1]; rfl))) rfl
      · refine ⟨⟨[.air, .lst (pieces (g :: r)), nat h, .int pl, w4, w5], none, some (its' ++ [piece q])⟩, ?_, by rw [← q3]⟩
        unfold F_beat
        refine st_ifN (pt_eq (mcmp_eq (a := nat h) (b := .int 0) (t := false) rfl rfl ?_)) ?_
        · show some ((h : Int) == 0) = _
          congr 1; simp; lia
        refine st_setp (d := nat (h - 1)) rfl (mbin_eq (a := nat h) (b := .int 1) rfl rfl ?_) ?_
        · show some (DV.int ((h : Int) - 1)) = some (DV.int ((h - 1 : Nat) : Int))
          congr 2; lia
        refine st_do (Eq.trans (for_eq (lst_eq (p_eq (mslice_eq (a := .lst (pieces (g :: r))) (l := some 1) (u := none) rfl rfl rfl slice_tail))) rfl) e) ?_
        subst q1
        refine st_ifT (pt_eq (mcmp_eq (a := nat q) (b := .int 0) (t := true) rfl rfl ?_)) ?_ rfl
        · show some (decide ((q : Int) ≥ 0)) = _
          rw [decide_eq_true (by lia)]
        · refine st_expr (meth_eq rfl (lcons_eq (p_eq (mbin_eq (a := .str (ofL [32])) (b := nat q) ?_ rfl (mul_bl (by omega)))) (lcons_eq (p_eq (mstr_o _)) rfl)) (pushB q4)) rfl
          unfold mStr
          rw [if_pos (show (Str.ofString " ").length ≤ sizeB by decide +kernel), sp_is]
  obtain ⟨σ, e, ha⟩ := fin
  show (F_beat ⟨[.air, .lst (pieces (g :: r)), nat h, .undef, .undef, .undef], none, some its⟩).bind _ = _
  rw [e, ← ha]; rfl
end Mine
end

section
open PySem PySem.Calls PyProof.Rows PySem.W
set_option maxRecDepth 100000
namespace Mine
noncomputable def hts (q : Nat → Bool) (gs : List Nat) (l : Nat) : List Nat := if memG gs 0 = true then ((List.range (l + 7)).map (1 + ·)).filter fun h => !memG gs h && (decide (h < l) || q (h - l)) else [0]
noncomputable def waysG (q : Nat → Bool) : Nat → List Nat → List Nat → List (List Nat × List Nat)
  | 0, gs, ths => [(gs, ths)]
  | l + 1, gs, ths => (hts q gs (l + 1)).flatMap fun h => waysG q l (stepG gs h) (ths ++ [h])
noncomputable def resD (x : List Nat × List Nat) : DV := .tup [.str (rowT x.1), nat x.1.length, nat (2 + wid x.1), tv x.2]
structure GOk (gs : List Nat) : Prop where
  ne : gs ≠ []
  len : gs.length ≤ 8
  wid : wid gs ≤ 20
theorem hts_ok {q : Nat → Bool} {gs : List Nat} {l h : Nat} (hh : h ∈ hts q gs l) : (h = 0 ∧ memG gs 0 = false) ∨ (0 < h ∧ h < l + 8 ∧ memG gs 0 = true ∧ memG gs h = false) := by
  unfold hts at hh
  split at hh
  · rename_i h0
    obtain ⟨h1, h2⟩ := List.mem_filter.mp hh
    obtain ⟨x, hx, rfl⟩ := List.mem_map.mp h1
    have := List.mem_range.mp hx
    simp only [Bool.and_eq_true, Bool.not_eq_true'] at h2
    exact .inr ⟨by lia, by lia, h0, h2.1⟩
  · rename_i h0
    exact .inl ⟨by simpa using hh, by simpa using h0⟩
theorem step_ok {gs : List Nat} {h : Nat} (g : GOk gs) (hh : (h = 0 ∧ memG gs 0 = false) ∨ (0 < h ∧ h ≤ 20 ∧ memG gs 0 = true ∧ memG gs h = false)) :
    GOk (stepG gs h) ∧ (stepG gs h).length = gs.length ∧ (∀ k, memG (stepG gs h) k = ((h != 0 && k == h - 1) || memG gs (k + 1))) ∧ ∃ a r, gs = a :: r ∧ (h = 0 → 0 < a) ∧ (0 < h → memG r (h - 1) = false) := by
  obtain ⟨ne, hl, hw⟩ := g
  cases gs with
  | nil => exact absurd rfl ne
  | cons a r =>
    rw [wid_cons] at hw
    simp only [List.length_cons] at hl
    rcases hh with ⟨rfl, h0⟩ | ⟨hp, h20, h0, hm⟩
    · have ha : 0 < a := by
        unfold memG at h0
        split at h0
        · assumption
        · split at h0
          · cases h0
          · lia
      have hs : stepG (a :: r) 0 = (a - 1) :: r := rfl
      rw [hs]
      refine ⟨⟨by simp, by simpa using hl, by rw [wid_cons]; lia⟩, rfl, fun k => ?_, a, r, rfl, fun _ => ha, fun q => absurd q (by lia)⟩
      simp only [bne_self_eq_false, Bool.false_and, Bool.false_or]
      unfold memG
      by_cases h1 : k < a - 1
      · rw [if_pos h1, if_pos (by omega)]
      · rw [if_neg h1, if_neg (show ¬ k + 1 < a by lia)]
        by_cases h2 : k = a - 1
        · rw [if_pos h2, if_pos (show k + 1 = a by lia)]
        · rw [if_neg h2, if_neg (show ¬ k + 1 = a by lia), show k - (a - 1) - 1 = k + 1 - a - 1 by lia]
    · have ha : a = 0 := by
        unfold memG at h0
        split at h0
        · cases h0
        · split at h0
          · lia
          · lia
      subst ha
      have hmr : ∀ k, memG (0 :: r) (k + 1) = memG r k := fun k => by
        show (if k + 1 < 0 then false else if k + 1 = 0 then true else memG r (k + 1 - 0 - 1)) = _
        rw [if_neg (by lia), if_neg (by lia), show k + 1 - 0 - 1 = k by lia]
      have hm' : memG r (h - 1) = false := by rw [← hmr, show h - 1 + 1 = h by lia]; exact hm
      have hs : stepG (0 :: r) h = insG (h - 1) r := by unfold stepG; dsimp only; rw [if_neg (by lia)]
      rw [hs]
      have hwi := wid_ins (h - 1) r hm'
      refine ⟨⟨fun e => by have := len_ins (h - 1) r; rw [e] at this; simp at this, by rw [len_ins]; exact hl, by lia⟩, len_ins _ _, fun k => ?_, 0, r, rfl, fun q => by lia, fun _ => hm'⟩
      rw [mem_ins k hm', hmr]
      have : (h != 0) = true := by simp; lia
      rw [this, Bool.true_and]
theorem hts_len (q : Nat → Bool) (gs : List Nat) {l : Nat} (hl : l ≤ 4) : (hts q gs l).length ≤ 12 := by
  unfold hts
  split
  · refine Nat.le_trans (List.length_filter_le _ _) ?_
    simp; lia
  · simp
theorem flat_len {α β : Type} {f : α → List β} {b : Nat} : ∀ {l : List α}, (∀ x ∈ l, (f x).length ≤ b) → (l.flatMap f).length ≤ l.length * b
  | [], _ => by simp
  | x :: r, h => by
    rw [List.flatMap_cons, List.length_append, List.length_cons]
    have h1 := h x (.head _)
    have h2 := flat_len (l := r) fun y hy => h y (.tail _ hy)
    rw [Nat.succ_mul]; lia
theorem ways_len (q : Nat → Bool) : ∀ (l : Nat) (gs ths : List Nat), l ≤ 4 → (waysG q l gs ths).length ≤ 12 ^ l
  | 0, _, _, _ => by simp [waysG]
  | l + 1, gs, ths, hl => by
    unfold waysG
    have := flat_len (b := 12 ^ l) (l := hts q gs (l + 1)) (f := fun h => waysG q l (stepG gs h) (ths ++ [h])) fun h _ => ways_len q l _ _ (by lia)
    refine Nat.le_trans this ?_
    rw [Nat.pow_succ, Nat.mul_comm]
    exact Nat.mul_le_mul_left _ (hts_len q gs hl)
theorem len_eq' {F : List DV → Air → Option (DV × Air)} {f₀ : List DV → Option DV} {ρ : List DV} {α β : Air} {n : Nat} (h0 : f₀ ρ = some .air) (h : F [.air] α = some (nat n, β)) (hn : n < 1000) : gLen F f₀ ρ α = some (nat n, β) := by
  unfold gLen
  rw [h0, Option.bind_some]
  dsimp only
  rw [h, Option.bind_some]
  show (if 0 ≤ (n : Int) ∧ (n : Int) < 2 ^ 63 then some (DV.int (n : Int), β) else none) = _
  rw [if_pos (by lia)]; rfl
theorem str_eq' {F : List DV → Air → Option (DV × Air)} {f₀ : List DV → Option DV} {ρ : List DV} {α β : Air} {x : Str} (h0 : f₀ ρ = some .air) (h : F [.air] α = some (.str x, β)) : gStr F f₀ ρ α = some (.str x, β) := by
  unfold gStr
  rw [h0, Option.bind_some]
  dsimp only
  rw [h]; rfl
theorem tup_eq {g : List DV → Air → Option (List DV × Air)} {ρ ds : List DV} {α β : Air} (h : g ρ α = some (ds, β)) (hl : ds.length ≤ sizeB) : gTup g ρ α = some (.tup ds, β) := by
  unfold gTup; rw [h, Option.bind_some, if_pos hl]
theorem list_eq {g : List DV → Air → Option (List DV × Air)} {ρ ds : List DV} {α β : Air} (h : g ρ α = some (ds, β)) (hl : ds.length ≤ sizeB) : gList g ρ α = some (.lst ds, β) := by
  unfold gList; rw [h, Option.bind_some, if_pos hl]
theorem ways_zero {gs ths goal : List Nat} {R : List DV → Air → Option (DV × Air)} (g : GOk gs) : G_ways R [.air, nat 0, tv goal, tv ths] (some (pieces gs)) = some (.lst [resD (gs, ths)], some (pieces gs)) := by
  have e : F_ways R ⟨[.air, nat 0, tv goal, tv ths, .undef, .undef, .undef, .undef, .undef, .undef, .undef, .undef], none, some (pieces gs)⟩ = some (.ret (.lst [resD (gs, ths)]), ⟨[.air, nat 0, tv goal, tv ths, .str (rowT gs), .undef, .undef, .undef, .undef, .undef, .undef, .undef], none, some (pieces gs)⟩) := by
    unfold F_ways
    have hw := g.wid
    refine st_set (d := .str (rowT gs)) rfl (str_eq' rfl (str_of (by lia))) ?_
    refine st_ifR (pt_eq (mcmp_eq (a := nat 0) (b := .int 0) (t := true) rfl rfl rfl)) ?_
    refine st_ret (list_eq (ds := [resD (gs, ths)]) (lcons_eq (tup_eq (lcons_eq (p_eq rfl) (lcons_eq (meth_eq rfl rfl (count_of gs)) (lcons_eq (len_eq' rfl (len_of (by lia)) (show 2 + wid gs < 1000 by lia)) (lcons_eq (p_eq rfl) rfl)))) ?_) rfl) ?_)
    · exact (show 4 ≤ sizeB by decide)
    · exact (show 1 ≤ sizeB by decide)
  show (F_ways R ⟨[.air, nat 0, tv goal, tv ths, .undef, .undef, .undef, .undef, .undef, .undef, .undef, .undef], none, some (pieces gs)⟩).bind _ = _
  rw [e]; rfl
theorem mem_take (gs : List Nat) : decide ((rowL gs).take 1 = [111]) = memG gs 0 := by
  have := mem_one gs 0
  rw [List.drop_zero] at this
  rw [Bool.eq_iff_iff, decide_eq_true_eq, this]
theorem slice_now (gs : List Nat) : sliceD (.str (rowT gs)) none (some 1) = some (.str (ofL ((rowL gs).take 1))) := by
  show some (DV.str (Txt.slice (ofL (rowL gs)) none (some 1))) = _
  rw [slice_eq]
  have e1 : clipN (some 1) (rowL gs).length (rowL gs).length = min 1 (rowL gs).length := clipN_nat (k := 1)
  have e2 : clipN none 0 (rowL gs).length = 0 := rfl
  rw [e1, e2, List.drop_zero, Nat.sub_zero]
  congr 3
  rw [List.take_eq_take_iff]; lia
theorem slice_at (gs : List Nat) (h : Nat) : sliceD (.str (rowT gs)) (some (h : Int)) (some ((h + 1 : Nat) : Int)) = some (.str (ofL (((rowL gs).drop h).take 1))) := by
  show some (DV.str (Txt.slice (ofL (rowL gs)) (some (h : Int)) (some ((h + 1 : Nat) : Int)))) = _
  rw [slice_eq]
  have e1 : clipN (some ((h + 1 : Nat) : Int)) (rowL gs).length (rowL gs).length = min (h + 1) (rowL gs).length := clipN_nat
  have e2 : clipN (some (h : Int)) 0 (rowL gs).length = min h (rowL gs).length := clipN_nat
  rw [e1, e2]
  congr 3
  by_cases q : h < (rowL gs).length
  · rw [show min (h + 1) (rowL gs).length - min h (rowL gs).length = 1 by lia, show min h (rowL gs).length = h by lia]
  · rw [show min h (rowL gs).length = (rowL gs).length by lia, List.drop_of_length_le (Nat.le_refl _), List.drop_of_length_le (by lia)]; simp
end Mine
end

section
open PySem PySem.Calls PyProof.Rows PySem.W
set_option maxRecDepth 100000
namespace Mine
section
variable {q : Nat → Bool} {gs ths goal : List Nat} {l : Nat} {R : List DV → Air → Option (DV × Air)}
theorem inner_ways {v5 : DV} {h : Nat} {x : Str} : inner [1, 2, 4] 11 (nat h) [.air, nat l, tv goal, tv ths, .str x, v5, .undef, .undef, .undef, .undef, .undef, .undef] = [.undef, nat l, tv goal, .undef, .str x, .undef, .undef, .undef, .undef, .undef, .undef, nat h] := rfl
theorem hts_test (_ : l ≤ 4) (h : Nat) : mAnd (mCmp .NotEq (mSlice (mVar 4) (pAt (mVar 11)) (pAt (mBin .Add (mVar 11) (mInt 1)))) (mStr "o")) (mAnd (mOr (mCmp .Lt (mVar 11) (mVar 1)) (mOr (mCmp .In (mBin .Sub (mVar 11) (mVar 1)) (mVar 2)) mOrF)) mAndT)
    [.undef, nat l, tv goal, .undef, .str (rowT gs), .undef, .undef, .undef, .undef, .undef, .undef, nat h] = some (!memG gs h && (decide (h < l) || inS goal (h - l))) := by
  generalize hρ : ([.undef, nat l, tv goal, .undef, .str (rowT gs), .undef, .undef, .undef, .undef, .undef, .undef, nat h] : List DV) = ρ
  have v11 : mVar 11 ρ = some (nat h) := by subst hρ; rfl
  have v1 : mVar 1 ρ = some (nat l) := by subst hρ; rfl
  have v2 : mVar 2 ρ = some (tv goal) := by subst hρ; rfl
  have v4 : mVar 4 ρ = some (.str (rowT gs)) := by subst hρ; rfl
  clear hρ
  have c1 : mCmp .NotEq (mSlice (mVar 4) (pAt (mVar 11)) (pAt (mBin .Add (mVar 11) (mInt 1)))) (mStr "o") ρ = some (!memG gs h) := by
    refine mcmp_eq (mslice_eq (l := some (h : Int)) (u := some ((h + 1 : Nat) : Int)) v4 (mat_eq v11 rfl) (mat_eq (a := nat (h + 1)) (mbin_eq (b := nat 1) v11 rfl rfl) rfl) (slice_at gs h)) (mstr_o _) ?_
    show some (ofL (((rowL gs).drop h).take 1) != ofL [111]) = _
    unfold bne
    rw [beq_ofL]
    congr 2
    rw [Bool.eq_iff_iff, decide_eq_true_eq, mem_one]
  cases hm : memG gs h with
  | true => rw [hm] at c1; exact mand_f c1
  | false =>
    rw [hm] at c1
    refine mand_t c1 (mand_last ?_)
    have c2 : mCmp .Lt (mVar 11) (mVar 1) ρ = some (decide (h < l)) := by
      refine mcmp_eq v11 v1 ?_
      show some (decide ((h : Int) < (l : Int))) = _
      congr 1
      exact decide_eq_decide.mpr (by omega)
    by_cases hlt : h < l
    · rw [decide_eq_true hlt] at c2 ⊢
      exact mor_t c2
    · rw [decide_eq_false hlt] at c2 ⊢
      refine mor_f c2 ?_
      have b1 : binD .Sub (nat h) (nat l) = some (nat (h - l)) := by
        show some (DV.int ((h : Int) - (l : Int))) = some (DV.int ((h - l : Nat) : Int))
        congr 2; omega
      have c3 : mCmp .In (mBin .Sub (mVar 11) (mVar 1)) (mVar 2) ρ = some (inS goal (h - l)) := mcmp_eq (mbin_eq v11 v1 b1) v2 (inD_nat (h - l) goal)
      cases hq : inS goal (h - l) with
      | true => rw [hq] at c3; exact mor_t c3
      | false => rw [hq] at c3; exact mor_f c3 rfl
theorem hts_comp {v5 : DV} (hl : l ≤ 4) : mComp 11 [1, 2, 4] (mCall rangeD (lCons (mInt 1) (lCons (mBin .Add (mVar 1) (mInt 8)) lNil))) (mAnd (mCmp .NotEq (mSlice (mVar 4) (pAt (mVar 11)) (pAt (mBin .Add (mVar 11) (mInt 1)))) (mStr "o")) (mAnd (mOr (mCmp .Lt (mVar 11) (mVar 1)) (mOr (mCmp .In (mBin .Sub (mVar 11) (mVar 1)) (mVar 2)) mOrF)) mAndT)) (mVar 11)
    [.air, nat l, tv goal, tv ths, .str (rowT gs), v5, .undef, .undef, .undef, .undef, .undef, .undef] = some (tv (((List.range (l + 7)).map (1 + ·)).filter fun h => !memG gs h && (decide (h < l) || inS goal (h - l)))) := by
  refine mComp_nat (a := .rng 1 1 (l + 7)) (g := nat) ?_ items_rng (show 11 < 12 by decide) (fun h _ => ?_) (fun _ _ _ => ⟨rfl, rfl⟩)
  · refine mcall_eq (ds := [nat 1, nat (l + 8)]) (mlc_eq rfl (mlc_eq (mbin_eq (a := nat l) (b := nat 8) rfl rfl rfl) rfl)) ?_
    exact (range_2 _ _).trans (rng_nat (a := 1) (b := l + 8) (by lia) (by lia))
  · rw [inner_ways]
    exact hts_test hl h
noncomputable def wenv (l : Nat) (goal ths gs hs : List Nat) (v8 v9 v10 : DV) : List DV := [.air, nat l, tv goal, tv ths, .str (rowT gs), tv hs, .undef, .lst (pieces gs), v8, v9, v10, .undef]
theorem ext_eq {k : Nat} {f : List DV → Air → Option (DV × Air)} {ρ ds es : List DV} {α β : Air} (h : f ρ α = some (.lst es, β)) (hl : ds.length + es.length ≤ sizeB) : kExt k f ⟨ρ, some (k, .lst ds), α⟩ = some (.next, ⟨ρ, some (k, .lst (ds ++ es)), β⟩) := by
  unfold kExt
  rw [show ownL ⟨ρ, some (k, .lst ds), α⟩ = some (k, ds) from rfl, Option.bind_some]
  dsimp only
  rw [if_pos (by simp), h, Option.bind_some]
  dsimp only
  rw [if_pos hl]
theorem for_name {i : Nat} {F G : SF} {d : DV} {r ρ : List DV} {own : Option (Nat × OwnK)} {α : Air} {σ' : St} (ho : ownOff ⟨ρ, own, α⟩ i = true) (h : F ⟨ρ.set i d, own, α⟩ = some (.next, σ')) : forGo (tName i) F G (d :: r) ⟨ρ, own, α⟩ = forGo (tName i) F G r σ' := by
  rw [forGo]
  unfold tName
  rw [if_pos ho, Option.bind_some]
  dsimp only
  rw [h]; rfl
theorem tups_cons {i j : Nat} {F G : SF} {a b : DV} {r ρ : List DV} {own : Option (Nat × OwnK)} {α : Air} {σ' : St} (ho : ∀ ρ, ownOff ⟨ρ, own, α⟩ i = true) (ho' : ∀ ρ, ownOff ⟨ρ, own, α⟩ j = true) (h : F ⟨(ρ.set i a).set j b, own, α⟩ = some (.next, σ')) : forGo (tTup 2 (tCons (tName i) (tCons (tName j) tNil))) F G (.tup [a, b] :: r) ⟨ρ, own, α⟩ = forGo (tTup 2 (tCons (tName i) (tCons (tName j) tNil))) F G r σ' := by
  rw [forGo]
  have e : tTup 2 (tCons (tName i) (tCons (tName j) tNil)) (.tup [a, b]) ⟨ρ, own, α⟩ = some ⟨(ρ.set i a).set j b, own, α⟩ := by
    show (tName i a ⟨ρ, own, α⟩).bind _ = _
    unfold tName
    rw [if_pos (ho ρ), Option.bind_some]
    show (if ownOff ⟨ρ.set i a, own, α⟩ j then some _ else none : Option St).bind _ = _
    rw [if_pos (ho' _)]; rfl
  rw [e, Option.bind_some, h]; rfl
theorem play_one {h : Nat} {acc : List DV} {hs : List Nat} {v8 v9 v10 : DV} (g : GOk gs) (hl : l ≤ 3) (hh : h ∈ hts q gs (l + 1)) (ht : ths.length ≤ 100)
    (hR : ∀ gs' ths', GOk gs' → ths'.length ≤ ths.length + 1 → R [.air, nat l, tv goal, tv ths'] (some (pieces gs')) = some (.lst ((waysG q l gs' ths').map resD), some (pieces gs'))) (ha : acc.length + 12 ^ l ≤ sizeB) :
    B_ways_1 R ⟨wenv (l + 1) goal ths gs hs (nat h) v9 v10, some (6, .lst acc), some []⟩ = some (.next, ⟨wenv (l + 1) goal ths gs hs (nat h) v9 v10, some (6, .lst (acc ++ (waysG q l (stepG gs h) (ths ++ [h])).map resD)), some []⟩) := by
  have hk := hts_ok hh
  have hk' : (h = 0 ∧ memG gs 0 = false) ∨ (0 < h ∧ h ≤ 20 ∧ memG gs 0 = true ∧ memG gs h = false) := by
    rcases hk with h | ⟨h1, h2, h3, h4⟩
    · exact .inl h
    · exact .inr ⟨h1, by lia, h3, h4⟩
  have h20 : h ≤ 20 := by rcases hk' with h | h <;> lia
  obtain ⟨g', s2, s3, a, r, e, s4, s5⟩ := step_ok g hk'
  have hw := g.wid
  have hlen := g.len
  have hb := beat_of (g := a) (r := r) (h := h) (its := []) (by rw [← e]; lia) (by lia) (by rw [e] at hlen; simp at hlen ⊢; lia) s4 s5
  rw [← e, List.nil_append] at hb
  unfold B_ways_1 wenv
  refine st_expr (call_eq (lcons_eq (p_eq rfl) (lcons_eq (p_eq rfl) (lcons_eq (p_eq rfl) rfl))) hb) ?_
  refine st_do (ext_eq (call_eq (ds := [.air, nat l, tv goal, tv (ths ++ [h])]) (lcons_eq (p_eq rfl) (lcons_eq (p_eq (mbin_eq (a := nat (l + 1)) (b := nat 1) rfl rfl ?_)) (lcons_eq (p_eq rfl) (lcons_eq (p_eq (mbin_eq (a := tv ths) (b := tv [h]) rfl (mlist_eq (mlc_eq rfl rfl) (show 1 ≤ sizeB by decide)) ?_)) rfl)))) (hR _ _ g' (by simp))) ?_) ?_
  · show some (DV.int (((l + 1 : Nat) : Int) - ((1 : Nat) : Int))) = some (DV.int (l : Int))
    congr 2; lia
  · show (if (ths.map nat).length + 1 ≤ sizeB then some (DV.lst (ths.map nat ++ [nat h])) else none) = _
    rw [if_pos (by rw [List.length_map]; exact Nat.le_trans (show ths.length + 1 ≤ 101 by lia) (by decide))]
    unfold tv; simp
  · rw [List.length_map]
    have := ways_len q l (stepG gs h) (ths ++ [h]) (by lia)
    lia
  · exact st_expr (meth_eq rfl rfl (pop_of _)) rfl
theorem play_go (g : GOk gs) (hl : l ≤ 3) (ht : ths.length ≤ 100)
    (hR : ∀ gs' ths', GOk gs' → ths'.length ≤ ths.length + 1 → R [.air, nat l, tv goal, tv ths'] (some (pieces gs')) = some (.lst ((waysG q l gs' ths').map resD), some (pieces gs'))) (HS : List Nat) :
    ∀ (hs : List Nat) (acc : List DV) (v8 v9 v10 : DV), (∀ h ∈ hs, h ∈ hts q gs (l + 1)) → acc.length + hs.length * 12 ^ l ≤ 12 * 12 ^ l →
      ∃ w8, forGo (tName 8) (B_ways_1 R) kNil (hs.map nat) ⟨wenv (l + 1) goal ths gs HS v8 v9 v10, some (6, .lst acc), some []⟩ = some (.next, ⟨wenv (l + 1) goal ths gs HS w8 v9 v10, some (6, .lst (acc ++ (hs.flatMap fun h => waysG q l (stepG gs h) (ths ++ [h])).map resD)), some []⟩)
  | [], acc, v8, v9, v10, _, _ => ⟨v8, by simp; rfl⟩
  | h :: r, acc, v8, v9, v10, hm, ha => by
    have h12 : 12 ^ l ≤ 12 ^ 3 := Nat.pow_le_pow_right (by decide) hl
    rw [List.length_cons, Nat.succ_mul] at ha
    have h1 := play_one (q := q) (goal := goal) (R := R) (h := h) (acc := acc) (hs := HS) (v8 := v8) (v9 := v9) (v10 := v10) g hl (hm h (.head _)) ht hR (Nat.le_trans (show acc.length + 12 ^ l ≤ 12 * 12 ^ 3 by lia) (by decide))
    obtain ⟨w8, e⟩ := play_go g hl ht hR HS r (acc ++ (waysG q l (stepG gs h) (ths ++ [h])).map resD) (nat h) v9 v10 (fun x hx => hm x (.tail _ hx)) (by
      rw [List.length_append, List.length_map]
      have := ways_len q l (stepG gs h) (ths ++ [h]) (by lia)
      lia)
    refine ⟨w8, ?_⟩
    rw [List.map_cons]
    refine Eq.trans (for_name rfl h1) ?_
    rw [e, List.flatMap_cons, List.map_append, List.append_assoc]
theorem back_go {acc : List DV} {hs : List Nat} : ∀ (r : List Nat) (its : List DV) (v8 v9 v10 : DV), its.length + r.length ≤ 4096 →
    ∃ w9 w10, forGo (tTup 2 (tCons (tName 9) (tCons (tName 10) tNil))) (B_ways_2 R) kNil (pieces r) ⟨wenv l goal ths gs hs v8 v9 v10, some (6, .lst acc), some its⟩ = some (.next, ⟨wenv l goal ths gs hs v8 w9 w10, some (6, .lst acc), some (its ++ pieces r)⟩)
  | [], its, v8, v9, v10, _ => ⟨v9, v10, by unfold pieces; simp; rfl⟩
  | g :: r, its, v8, v9, v10, h => by
    simp only [List.length_cons] at h
    obtain ⟨w9, w10, e⟩ := back_go (acc := acc) (hs := hs) r (its ++ [piece g]) v8 (bl g) ob (by simp; lia)
    refine ⟨w9, w10, ?_⟩
    have hb : B_ways_2 R ⟨wenv l goal ths gs hs v8 (bl g) ob, some (6, .lst acc), some its⟩ = some (.next, ⟨wenv l goal ths gs hs v8 (bl g) ob, some (6, .lst acc), some (its ++ [piece g])⟩) := by
      unfold B_ways_2 wenv
      exact st_expr (meth_eq rfl (lcons_eq (p_eq rfl) (lcons_eq (p_eq rfl) rfl)) (pushB (by lia))) rfl
    refine Eq.trans (tups_cons (fun _ => rfl) (fun _ => rfl) hb) ?_
    rw [show forGo _ _ _ (r.map piece) _ = _ from e]
    unfold pieces; simp
theorem ways_succ (hq : q = inS goal) (g : GOk gs) (hl : l ≤ 3) (ht : ths.length ≤ 100)
    (hR : ∀ gs' ths', GOk gs' → ths'.length ≤ ths.length + 1 → R [.air, nat l, tv goal, tv ths'] (some (pieces gs')) = some (.lst ((waysG q l gs' ths').map resD), some (pieces gs'))) :
    G_ways R [.air, nat (l + 1), tv goal, tv ths] (some (pieces gs)) = some (.lst ((waysG q (l + 1) gs ths).map resD), some (pieces gs)) := by
  have hw := g.wid
  have hlen := g.len
  obtain ⟨w8, e1⟩ := play_go (q := q) (goal := goal) (R := R) g hl ht hR (hts q gs (l + 1)) (hts q gs (l + 1)) [] .undef .undef .undef (fun _ h => h) (by
    have := hts_len q gs (l := l + 1) (by lia)
    simp only [List.length_nil, Nat.zero_add]
    exact Nat.mul_le_mul_right _ this)
  rw [List.nil_append] at e1
  obtain ⟨w9, w10, e2⟩ := back_go (R := R) (l := l + 1) (goal := goal) (ths := ths) (gs := gs) (acc := ((hts q gs (l + 1)).flatMap fun h => waysG q l (stepG gs h) (ths ++ [h])).map resD) (hs := hts q gs (l + 1)) gs [] w8 .undef .undef (by rw [List.length_nil]; lia)
  rw [List.nil_append] at e2
  have e : ∃ σ, F_ways R ⟨[.air, nat (l + 1), tv goal, tv ths, .undef, .undef, .undef, .undef, .undef, .undef, .undef, .undef], none, some (pieces gs)⟩ = some (.ret (.lst ((waysG q (l + 1) gs ths).map resD)), σ) ∧ σ.air = some (pieces gs) := by
    refine ⟨⟨(wenv (l + 1) goal ths gs (hts q gs (l + 1)) w8 w9 w10).set 6 (.lst ((waysG q (l + 1) gs ths).map resD)), none, some (pieces gs)⟩, ?_, rfl⟩
    unfold F_ways
    refine st_set (d := .str (rowT gs)) rfl (str_eq' rfl (str_of (by lia))) ?_
    refine st_ifN (pt_eq (mcmp_eq (a := nat (l + 1)) (b := .int 0) (t := false) rfl rfl ?_)) ?_
    · show some (((l + 1 : Nat) : Int) == 0) = _
      rw [beq_eq_false_iff_ne.mpr (by lia)]
    refine st_setp (d := tv [0]) rfl (mlist_eq (mlc_eq rfl rfl) (show 1 ≤ sizeB by decide)) ?_
    have c : ∀ ρ, mVar 4 ρ = some (.str (rowT gs)) → mCmp .Eq (mSlice (mVar 4) pNo (pAt (mInt 1))) (mStr "o") ρ = some (memG gs 0) := fun ρ hρ => by
      refine mcmp_eq (mslice_eq (l := none) (u := some 1) hρ rfl rfl (slice_now gs)) (mstr_o _) ?_
      show some (ofL ((rowL gs).take 1) == ofL [111]) = _
      rw [beq_ofL, mem_take]
    have fin : ∀ (G : SF) (r : Option (Fl × St)), G ⟨[.air, nat (l + 1), tv goal, tv ths, .str (rowT gs), tv (hts q gs (l + 1)), .undef, .undef, .undef, .undef, .undef, .undef], none, some (pieces gs)⟩ = r →
        kSeq (kIf (gPT (mCmp .Eq (mSlice (mVar 4) pNo (pAt (mInt 1))) (mStr "o"))) (kSeq (kSet 5 (gP (mComp 11 [1, 2, 4] (mCall rangeD (lCons (mInt 1) (lCons (mBin .Add (mVar 1) (mInt 8)) lNil))) (mAnd (mCmp .NotEq (mSlice (mVar 4) (pAt (mVar 11)) (pAt (mBin .Add (mVar 11) (mInt 1)))) (mStr "o")) (mAnd (mOr (mCmp .Lt (mVar 11) (mVar 1)) (mOr (mCmp .In (mBin .Sub (mVar 11) (mVar 1)) (mVar 2)) mOrF)) mAndT)) (mVar 11)))) kNil) kNil) G
          ⟨[.air, nat (l + 1), tv goal, tv ths, .str (rowT gs), tv [0], .undef, .undef, .undef, .undef, .undef, .undef], none, some (pieces gs)⟩ = r := by
      intro G r hG
      cases hm : memG gs 0 with
      | true =>
        refine st_ifT (pt_eq ((c _ rfl).trans (by rw [hm]))) (st_setp (d := tv (hts q gs (l + 1))) rfl ?_ rfl) hG
        refine (hts_comp (l := l + 1) (by lia)).trans ?_
        unfold hts
        rw [if_pos hm, hq]
      | false =>
        refine st_ifN (pt_eq ((c _ rfl).trans (by rw [hm]))) ?_
        have : hts q gs (l + 1) = [0] := by unfold hts; rw [if_neg (by rw [hm]; decide)]
        rw [this] at hG
        exact hG
    refine fin _ _ ?_
    refine st_do (own_eq (ds := []) rfl rfl) ?_
    refine st_set (d := .lst (pieces gs)) rfl (meth_eq rfl rfl (pop_of _)) ?_
    refine st_do (Eq.trans (for_eq (d := tv (hts q gs (l + 1))) (p_eq rfl) rfl) e1) ?_
    refine st_do (Eq.trans (for_eq (lst_eq (p_eq rfl)) rfl) e2) ?_
    exact st_ret (p_eq rfl)
  obtain ⟨σ, e, ha⟩ := e
  show (F_ways R ⟨[.air, nat (l + 1), tv goal, tv ths, .undef, .undef, .undef, .undef, .undef, .undef, .undef, .undef], none, some (pieces gs)⟩).bind _ = _
  rw [e, ← ha]; rfl
end
theorem ways_of {goal : List Nat} : ∀ (l k : Nat) (gs ths : List Nat), l < k → l ≤ 4 → GOk gs → ths.length + l ≤ 100 → R_ways k [.air, nat l, tv goal, tv ths] (some (pieces gs)) = some (.lst ((waysG (inS goal) l gs ths).map resD), some (pieces gs))
  | 0, k + 1, gs, ths, _, _, g, _ => ways_zero g
  | l + 1, k + 1, gs, ths, hk, hl, g, ht => ways_succ rfl g (by lia) (by lia) fun gs' ths' g' ht' => ways_of l k gs' ths' (by lia) (by lia) g' (by lia)
end Mine
end

section
open PySem PySem.Calls PyProof.Rows PySem.W
set_option maxRecDepth 100000
namespace Mine
noncomputable def sumR (f : Nat → Nat) : Nat → Nat
  | 0 => 0
  | m + 1 => sumR f m + f m
noncomputable def ins' (t : Nat) (R : Nat → Bool) : Nat → Bool := fun k => k == t || R k
noncomputable def sh (R : Nat → Bool) : Nat → Bool := fun k => R (k + 1)
theorem sumR_congr {f g : Nat → Nat} : ∀ {m : Nat}, (∀ t, t < m → f t = g t) → sumR f m = sumR g m
  | 0, _ => rfl
  | m + 1, h => by unfold sumR; rw [sumR_congr fun t ht => h t (by lia), h m (by lia)]
theorem sumR_mul (f : Nat → Nat) (c : Nat) : ∀ m, sumR (fun t => f t * c) m = sumR f m * c
  | 0 => by simp [sumR]
  | m + 1 => by unfold sumR; rw [sumR_mul f c m, Nat.add_mul]
theorem sumR_add (f : Nat → Nat) (a : Nat) : ∀ b, sumR f (a + b) = sumR f a + sumR (fun i => f (a + i)) b
  | 0 => by simp [sumR]
  | b + 1 => by
    show sumR f (a + b) + f (a + b) = _
    rw [sumR_add f a b]
    show sumR f a + sumR (fun i => f (a + i)) b + f (a + b) = sumR f a + (sumR (fun i => f (a + i)) b + f (a + b))
    lia
theorem sumR_zero {f : Nat → Nat} : ∀ {m : Nat}, (∀ t, t < m → f t = 0) → sumR f m = 0
  | 0, _ => rfl
  | m + 1, h => by unfold sumR; rw [sumR_zero fun t ht => h t (by lia), h m (by lia)]
theorem cnt_congr {R Q : Nat → Bool} : ∀ {m : Nat}, (∀ t, t < m → R t = Q t) → cnt R m = cnt Q m
  | 0, _ => rfl
  | m + 1, h => by unfold cnt; rw [cnt_congr fun t ht => h t (by lia), h m (by lia)]
theorem cnt_ins {t : Nat} {R : Nat → Bool} (ht : R t = false) : ∀ m, cnt (ins' t R) m = cnt R m + (if t < m then 1 else 0)
  | 0 => by simp [cnt]
  | m + 1 => by
    unfold cnt
    rw [cnt_ins ht m]
    unfold ins'
    by_cases h : m = t
    · subst h; simp [ht]
    · have : (m == t) = false := by simpa using h
      rw [this, Bool.false_or]
      by_cases h2 : t < m
      · rw [if_pos h2, if_pos (by lia)]; lia
      · rw [if_neg h2, if_neg (by lia)]; lia
theorem cnt_first (R : Nat → Bool) : ∀ m, cnt R (m + 1) = (R 0).toNat + cnt (sh R) m
  | 0 => by simp [cnt]
  | m + 1 => by
    show cnt R (m + 1) + (R (m + 1)).toNat = _
    rw [cnt_first R m]
    show _ = (R 0).toNat + (cnt (sh R) m + (sh R m).toNat)
    unfold sh; lia
theorem cnt_add (R : Nat → Bool) (a : Nat) : ∀ b, cnt R (a + b) = cnt R a + cnt (fun i => R (i + a)) b
  | 0 => by simp [cnt]
  | b + 1 => by
    show cnt R (a + b) + (R (a + b)).toNat = cnt R a + (cnt (fun i => R (i + a)) b + (R (b + a)).toNat)
    rw [cnt_add R a b, Nat.add_comm b a]; lia
theorem cnt_sum (R : Nat → Bool) : ∀ m, cnt R m = sumR (fun t => (R t).toNat) m
  | 0 => rfl
  | m + 1 => by unfold cnt sumR; rw [cnt_sum R m]
theorem Pc_congr {c : Nat} {R Q : Nat → Bool} : ∀ {m : Nat}, (∀ t, t < m → R t = Q t) → Pc c R m = Pc c Q m
  | 0, _ => rfl
  | m + 1, h => by unfold Pc; rw [Pc_congr fun t ht => h t (by lia), cnt_congr (R := R) (Q := Q) fun t ht => h t (by lia)]
theorem Pc_first (c : Nat) (R : Nat → Bool) : ∀ m, Pc c R (m + 1) = (c + 1) * Pc (c + (R 0).toNat) (sh R) m
  | 0 => by simp [Pc, cnt]
  | m + 1 => by
    show Pc c R (m + 1) * (c + cnt R (m + 1) + 1) = _
    rw [Pc_first c R m, cnt_first]
    show _ = (c + 1) * (Pc (c + (R 0).toNat) (sh R) m * (c + (R 0).toNat + cnt (sh R) m + 1))
    rw [Nat.mul_assoc]
    congr 2
    lia
theorem Pc_one (R : Nat → Bool) : ∀ m, Pc 1 R m = (cnt R m + 1) * Pc 0 R m + sumR (fun t => if R t = true then 0 else Pc 0 (ins' t R) m) m
  | 0 => by simp [Pc, cnt, sumR]
  | m + 1 => by
    have ih := Pc_one R m
    have e1 : sumR (fun t => if R t = true then 0 else Pc 0 (ins' t R) (m + 1)) m = sumR (fun t => if R t = true then 0 else Pc 0 (ins' t R) m) m * (cnt R m + 2) := by
      rw [← sumR_mul]
      refine sumR_congr fun t ht => ?_
      by_cases h : R t = true
      · rw [if_pos h, if_pos h, Nat.zero_mul]
      · rw [if_neg h, if_neg h]
        show Pc 0 (ins' t R) m * (0 + cnt (ins' t R) m + 1) = _
        rw [cnt_ins (by simpa using h), if_pos ht]
        congr 1; lia
    have e2 : Pc 0 (ins' m R) (m + 1) = Pc 0 R m * (cnt R m + 1) := by
      show Pc 0 (ins' m R) m * (0 + cnt (ins' m R) m + 1) = _
      have : ∀ t, t < m → ins' m R t = R t := fun t ht => by
        unfold ins'
        have : (t == m) = false := by simp; lia
        rw [this, Bool.false_or]
      rw [Pc_congr this, cnt_congr this, Nat.zero_add]
    show Pc 1 R m * (1 + cnt R m + 1) = (cnt R m + (R m).toNat + 1) * (Pc 0 R m * (0 + cnt R m + 1)) + (sumR (fun t => if R t = true then 0 else Pc 0 (ins' t R) (m + 1)) m + if R m = true then 0 else Pc 0 (ins' m R) (m + 1))
    rw [e1, e2, ih]
    generalize sumR (fun t => if R t = true then 0 else Pc 0 (ins' t R) m) m = S
    generalize Pc 0 R m = P
    generalize cnt R m = k
    cases R m with
    | true => simp only [Bool.toNat_true, if_true]; grind
    | false => simp only [Bool.toNat_false]; rw [if_neg (by decide)]; grind
noncomputable def okU (q R : Nat → Bool) (l : Nat) : Prop := ∀ i, i < 8 → R (i + l) = true → q i = true
theorem cnt_le {q R : Nat → Bool} : ∀ {m : Nat}, (∀ i, i < m → R i = true → q i = true) → cnt R m ≤ cnt q m
  | 0, _ => Nat.le_refl _
  | m + 1, h => by
    have ih := cnt_le (m := m) fun i hi => h i (by lia)
    have := h m (by lia)
    unfold cnt
    cases hr : R m with
    | true => rw [this hr]; lia
    | false => simp only [Bool.toNat_false]; lia
theorem cnt_same {q R : Nat → Bool} : ∀ {m : Nat}, (∀ i, i < m → R i = true → q i = true) → cnt R m = cnt q m → ∀ i, i < m → R i = q i
  | 0, _, _, i, hi => by lia
  | m + 1, h, hc, i, hi => by
    have hle := cnt_le (m := m) fun i hi => h i (by lia)
    have hm := h m (by lia)
    unfold cnt at hc
    have e : R m = q m := by
      cases hr : R m with
      | true => rw [hm hr]
      | false =>
        cases hq : q m with
        | false => rfl
        | true => rw [hr, hq] at hc; simp at hc; lia
    rcases Nat.lt_or_ge i m with h1 | h1
    · rw [e] at hc
      exact cnt_same (fun i hi => h i (by lia)) (by lia) i h1
    · obtain rfl : i = m := by lia
      exact e
theorem cnt_diff {q R : Nat → Bool} : ∀ {m : Nat}, (∀ i, i < m → R i = true → q i = true) → sumR (fun i => if R i = true then 0 else (q i).toNat) m + cnt R m = cnt q m
  | 0, _ => rfl
  | m + 1, h => by
    have ih := cnt_diff (m := m) fun i hi => h i (by lia)
    have hm := h m (by lia)
    unfold sumR cnt
    cases hr : R m with
    | true => rw [hm hr, if_pos rfl]; lia
    | false => rw [if_neg (by decide)]; simp only [Bool.toNat_false]; lia
theorem sum_filter (p : Nat → Bool) (f : Nat → Nat) : ∀ m, (((List.range m).filter p).map f).sum = sumR (fun t => if p t = true then f t else 0) m
  | 0 => rfl
  | m + 1 => by
    rw [List.range_succ, List.filter_append, List.map_append, List.sum_append, sum_filter p f m]
    show _ = sumR (fun t => if p t = true then f t else 0) m + (if p m = true then f m else 0)
    refine congrArg (sumR (fun t => if p t = true then f t else 0) m + ·) ?_
    by_cases h : p m = true
    · rw [List.filter_cons, if_pos h, if_pos h]; simp
    · rw [List.filter_cons, if_neg h, if_neg h]; simp
noncomputable def hits (G : List Nat) (l : List (List Nat × List Nat)) : Nat := (l.filter fun x => decide (x.1 = G)).length
theorem hits_flat {α : Type} (G : List Nat) (f : α → List (List Nat × List Nat)) : ∀ l : List α, hits G (l.flatMap f) = (l.map fun x => hits G (f x)).sum
  | [] => rfl
  | x :: r => by
    have := hits_flat G f r
    unfold hits at this ⊢
    rw [List.flatMap_cons, List.filter_append, List.length_append, this]; rfl
theorem mem_fun {gs : List Nat} {h : Nat} (e : ∀ k, memG (stepG gs h) k = ((h != 0 && k == h - 1) || memG gs (k + 1))) : memG (stepG gs h) = if h = 0 then sh (memG gs) else ins' (h - 1) (sh (memG gs)) := by
  funext k
  rw [e k]
  by_cases h0 : h = 0
  · subst h0; rw [if_pos rfl]; rfl
  · rw [if_neg h0]
    have : (h != 0) = true := by simpa using h0
    rw [this, Bool.true_and]; rfl
theorem count_ways {q : Nat → Bool} {G : List Nat} (hG : memG G = q) (h8 : ∀ k, q k = true → k < 8) : ∀ (l : Nat) (gs ths : List Nat), l ≤ 4 → GOk gs → (∀ k, memG gs k = true → k < l + 8) → cnt (memG gs) (l + 8) = cnt q 8 →
    (okU q (memG gs) l → hits G (waysG q l gs ths) = Pc 0 (memG gs) l) ∧ (¬ okU q (memG gs) l → hits G (waysG q l gs ths) = 0)
  | 0, gs, ths, _, _, hb, hc => by
    have key : okU q (memG gs) 0 ↔ gs = G := by
      constructor
      · intro h
        refine mem_ext fun k => ?_
        rw [hG]
        by_cases hk : k < 8
        · exact cnt_same (R := memG gs) (q := q) (m := 8) (fun i hi hr => h i hi hr) (by rw [← hc]) k hk
        · have e1 : memG gs k = false := by
            cases e : memG gs k with
            | false => rfl
            | true => have := hb k e; lia
          have e2 : q k = false := by
            cases e : q k with
            | false => rfl
            | true => have := h8 k e; lia
          rw [e1, e2]
      · intro h i _ hr
        rw [h, hG] at hr; exact hr
    constructor
    · intro h
      have := key.mp h
      unfold hits waysG Pc
      simp [this]
    · intro h
      have : gs ≠ G := fun e => h (key.mpr e)
      unfold hits waysG
      simp [this]
  | l + 1, gs, ths, hl, g, hb, hc => by
    have hc' : (memG gs 0).toNat + cnt (sh (memG gs)) (l + 8) = cnt q 8 := (cnt_first (memG gs) (l + 8)).symm.trans (by rw [← hc, show l + 1 + 8 = l + 8 + 1 by lia])
    have hb' : ∀ k, sh (memG gs) k = true → k < l + 8 := fun k hk => by have := hb (k + 1) hk; lia
    have okS : okU q (sh (memG gs)) l ↔ okU q (memG gs) (l + 1) := Iff.rfl
    rw [← okS]
    show (_ → hits G ((hts q gs (l + 1)).flatMap fun h => waysG q l (stepG gs h) (ths ++ [h])) = _) ∧ (_ → hits G ((hts q gs (l + 1)).flatMap fun h => waysG q l (stepG gs h) (ths ++ [h])) = 0)
    rw [hits_flat, Pc_first]
    by_cases h0 : memG gs 0 = true
    · rw [h0] at hc' ⊢
      simp only [Bool.toNat_true] at hc' ⊢
      generalize hR : sh (memG gs) = R at hc' hb' ⊢
      have each : ∀ h ∈ hts q gs (l + 1), 0 < h ∧ R (h - 1) = false ∧ (okU q R l → hits G (waysG q l (stepG gs h) (ths ++ [h])) = Pc 0 (ins' (h - 1) R) l) ∧ (¬ okU q R l → hits G (waysG q l (stepG gs h) (ths ++ [h])) = 0) := by
        intro h hh
        rcases hts_ok hh with ⟨_, h1⟩ | ⟨h1, h2, h3, h4⟩
        · rw [h0] at h1; cases h1
        · obtain ⟨g', s2, s3, _⟩ := step_ok g (.inr ⟨h1, by lia, h3, h4⟩)
          have e := mem_fun s3
          rw [if_neg (by lia), hR] at e
          have hn : R (h - 1) = false := by rw [← hR]; unfold sh; rw [show h - 1 + 1 = h by omega]; exact h4
          have hcond : h < l + 1 ∨ q (h - (l + 1)) = true := by
            unfold hts at hh
            rw [if_pos h0] at hh
            have := (List.mem_filter.mp hh).2
            simp only [Bool.and_eq_true, Bool.or_eq_true, decide_eq_true_eq] at this
            exact this.2
          have okI : okU q (ins' (h - 1) R) l ↔ okU q R l := by
            constructor
            · intro k i hi hr
              exact k i hi (by unfold ins'; rw [hr, Bool.or_true])
            · intro k i hi hr
              unfold ins' at hr
              rcases Bool.or_eq_true .. ▸ hr with hr | hr
              · have hr : i + l = h - 1 := by simpa using hr
                rcases hcond with hcond | hcond
                · omega
                · rw [show h - (l + 1) = i by omega] at hcond; exact hcond
              · exact k i hi hr
          have rc := count_ways hG h8 l (stepG gs h) (ths ++ [h]) (by lia) g' (by
            rw [e]
            intro k hk
            unfold ins' at hk
            rcases Bool.or_eq_true .. ▸ hk with hk | hk
            · have hk : k = h - 1 := by simpa using hk
              omega
            · exact hb' k hk) (by rw [e, cnt_ins hn, if_pos (by omega)]; lia)
          rw [e, okI] at rc
          exact ⟨h1, hn, rc.1, rc.2⟩
      constructor
      · intro ok
        have e1 : ((hts q gs (l + 1)).map fun h => hits G (waysG q l (stepG gs h) (ths ++ [h]))) = (hts q gs (l + 1)).map fun h => Pc 0 (ins' (h - 1) R) l := List.map_congr_left fun h hh => (each h hh).2.2.1 ok
        rw [e1]
        unfold hts
        rw [if_pos h0, List.filter_map, List.map_map]
        have e2 := sum_filter (fun t => !R t && (decide (t < l) || q (t - l))) (fun t => Pc 0 (ins' t R) l) (l + 8)
        have e3 : ((fun h => !memG gs h && (decide (h < l + 1) || q (h - (l + 1)))) ∘ fun x => 1 + x) = fun t => !R t && (decide (t < l) || q (t - l)) := by
          funext t
          simp only [Function.comp]
          rw [← hR]
          unfold sh
          rw [decide_eq_decide.mpr (show 1 + t < l + 1 ↔ t < l by lia), show 1 + t - (l + 1) = t - l by lia, Nat.add_comm 1 t]
        have e4 : ((fun h => Pc 0 (ins' (h - 1) R) l) ∘ fun x => 1 + x) = fun t => Pc 0 (ins' t R) l := by
          funext t
          simp only [Function.comp]
          rw [show 1 + t - 1 = t by lia]
        rw [e3, e4, show l + 1 + 7 = l + 8 by lia, e2, sumR_add]
        have e5 : sumR (fun t => if (!R t && (decide (t < l) || q (t - l))) = true then Pc 0 (ins' t R) l else 0) l = sumR (fun t => if R t = true then 0 else Pc 0 (ins' t R) l) l := by
          refine sumR_congr fun t ht => ?_
          rw [decide_eq_true ht, Bool.true_or, Bool.and_true]
          cases R t <;> rfl
        have e6 : sumR (fun i => if (!R (l + i) && (decide (l + i < l) || q (l + i - l))) = true then Pc 0 (ins' (l + i) R) l else 0) 8 = sumR (fun i => if R (i + l) = true then 0 else (q i).toNat) 8 * Pc 0 R l := by
          rw [← sumR_mul]
          refine sumR_congr fun i hi => ?_
          rw [decide_eq_false (by lia), Bool.false_or, show l + i - l = i by lia, Nat.add_comm l i]
          have e7 : Pc 0 (ins' (i + l) R) l = Pc 0 R l := Pc_congr fun t ht => by
            unfold ins'
            have : (t == i + l) = false := by simp; lia
            rw [this, Bool.false_or]
          rw [e7]
          cases R (i + l) <;> cases q i <;> simp
        have e8 := cnt_diff (q := q) (R := fun i => R (i + l)) (m := 8) ok
        have e9 := cnt_add R l 8
        have e10 : sumR (fun i => if R (i + l) = true then 0 else (q i).toNat) 8 = cnt R l + 1 := by
          have : cnt (fun i => R (i + l)) 8 + cnt R l + 1 = cnt q 8 := by lia
          lia
        rw [e5, e6, e10, Pc_one, Nat.zero_add, Nat.one_mul]
        lia
      · intro ok
        have e1 : ((hts q gs (l + 1)).map fun h => hits G (waysG q l (stepG gs h) (ths ++ [h]))) = (hts q gs (l + 1)).map fun h => 0 := List.map_congr_left fun h hh => (each h hh).2.2.2 ok
        rw [e1]
        generalize hts q gs (l + 1) = L
        induction L with
        | nil => rfl
        | cons a r ih => rw [List.map_cons, List.sum_cons, ih]
    · have h0' : memG gs 0 = false := by simpa using h0
      have hh : hts q gs (l + 1) = [0] := by unfold hts; rw [if_neg h0]
      obtain ⟨g', s2, s3, _⟩ := step_ok g (.inl ⟨rfl, h0'⟩ : ((0 : Nat) = 0 ∧ memG gs 0 = false) ∨ _)
      have e := mem_fun s3
      rw [if_pos rfl] at e
      rw [h0'] at hc' ⊢
      simp only [Bool.toNat_false, Nat.zero_add] at hc' ⊢
      have rc := count_ways hG h8 l (stepG gs 0) (ths ++ [0]) (by lia) g' (by rw [e]; exact hb') (by rw [e]; exact hc')
      rw [e] at rc
      rw [hh, Nat.one_mul]
      simpa using rc
end Mine
end

section
open PySem PySem.Calls PyProof.Rows PySem.W
set_option maxRecDepth 100000
namespace Mine
noncomputable def valF (v : Nat) : List Nat → Nat
  | [] => v
  | h :: r => valF (64 * v + h) r
theorem val_app : ∀ (a b : List Nat) (v : Nat), valF v (a ++ b) = valF (valF v a) b
  | [], _, _ => rfl
  | h :: r, b, v => by
    show valF (64 * v + h) (r ++ b) = _
    rw [val_app r b]; rfl
theorem val_lo : ∀ (hs : List Nat) (v : Nat), v * 64 ^ hs.length ≤ valF v hs
  | [], v => by simp [valF]
  | h :: r, v => by
    have := val_lo r (64 * v + h)
    refine Nat.le_trans ?_ this
    rw [List.length_cons, Nat.pow_succ, ← Nat.mul_assoc, Nat.mul_right_comm]
    exact Nat.mul_le_mul_right _ (by lia)
theorem val_hi : ∀ (hs : List Nat) (v : Nat), (∀ h ∈ hs, h < 64) → valF v hs < (v + 1) * 64 ^ hs.length
  | [], v, _ => by simp [valF]
  | h :: r, v, hh => by
    have h1 := hh h (.head _)
    have := val_hi r (64 * v + h) fun x hx => hh x (.tail _ hx)
    refine Nat.lt_of_lt_of_le this ?_
    rw [List.length_cons, Nat.pow_succ, ← Nat.mul_assoc, Nat.mul_right_comm]
    exact Nat.mul_le_mul_right _ (by lia)
theorem val_mod : ∀ (hs : List Nat) (v : Nat), valF v hs % 63 = (v + hs.sum) % 63
  | [], v => by simp [valF]
  | h :: r, v => by
    show valF (64 * v + h) r % 63 = _
    rw [val_mod r, List.sum_cons]; lia
noncomputable def sumP : Nat → List Nat → Nat
  | _, [] => 0
  | a, g :: r => (a + g) + sumP (a + g + 1) r
theorem sum_up : ∀ (gs : List Nat) (a : Nat), sumP (a + 1) gs = sumP a gs + gs.length
  | [], _ => rfl
  | g :: r, a => by
    show (a + 1 + g) + sumP (a + 1 + g + 1) r = (a + g) + sumP (a + g + 1) r + (r.length + 1)
    have := sum_up r (a + g + 1)
    rw [show a + 1 + g + 1 = a + g + 1 + 1 by lia, this]; lia
theorem sum_ins : ∀ (gs : List Nat) (p a : Nat), memG gs p = false → sumP a (insG p gs) = sumP a gs + a + p
  | [], p, a, _ => by simp [insG, sumP]
  | g :: r, p, a, h => by
    unfold memG at h
    unfold insG
    split
    · rename_i hp
      show (a + p) + ((a + p + 1 + (g - p - 1)) + sumP (a + p + 1 + (g - p - 1) + 1) r) = (a + g) + sumP (a + g + 1) r + a + p
      rw [show a + p + 1 + (g - p - 1) = a + g by omega]; lia
    · rename_i hp
      rw [if_neg hp] at h
      split at h
      · cases h
      · have := sum_ins r (p - g - 1) (a + g + 1) h
        show (a + g) + sumP (a + g + 1) (insG (p - g - 1) r) = (a + g) + sumP (a + g + 1) r + a + p
        lia
theorem sum_step {gs : List Nat} {h : Nat} {a : Nat} {r : List Nat} (e : gs = a :: r) (h0 : h = 0 → 0 < a) (h1 : 0 < h → a = 0 ∧ memG r (h - 1) = false) : sumP 0 (stepG gs h) + gs.length = sumP 0 gs + h := by
  subst e
  by_cases hz : h = 0
  · subst hz
    have := h0 rfl
    show ((0 + (a - 1)) + sumP (0 + (a - 1) + 1) r) + (r.length + 1) = (0 + a) + sumP (0 + a + 1) r + 0
    have e := sum_up r (0 + (a - 1) + 1)
    rw [show 0 + (a - 1) + 1 + 1 = 0 + a + 1 by lia] at e
    lia
  · obtain ⟨rfl, hm⟩ := h1 (by lia)
    have hs : stepG (0 :: r) h = insG (h - 1) r := by unfold stepG; dsimp only; rw [if_neg hz]
    rw [hs, sum_ins r (h - 1) 0 hm]
    show sumP 0 r + 0 + (h - 1) + (r.length + 1) = (0 + 0) + sumP (0 + 0 + 1) r + h
    have e := sum_up r 0
    rw [show 0 + 0 + 1 = 0 + 1 by lia]
    lia
theorem sum_gaps : ∀ {S : List Nat} {a : Nat}, S.Pairwise (· < ·) → (∀ k ∈ S, a ≤ k) → sumP a (gapsF a S) = S.sum
  | [], _, _, _ => rfl
  | t :: r, a, hs, ha => by
    have hs' := List.pairwise_cons.mp hs
    have hta := ha t (.head _)
    have ih := sum_gaps (a := t + 1) hs'.2 fun j hj => hs'.1 j hj
    show (a + (t - a)) + sumP (a + (t - a) + 1) (gapsF (t + 1) r) = (t :: r).sum
    rw [show a + (t - a) = t by lia, ih, List.sum_cons]
theorem ways_facts {q : Nat → Bool} : ∀ (l : Nat) (gs ths : List Nat), l ≤ 4 → GOk gs → ∀ x ∈ waysG q l gs ths, ∃ hs : List Nat, x.2 = ths ++ hs ∧ hs.length = l ∧ (∀ h ∈ hs, h < 12) ∧ sumP 0 x.1 + l * gs.length = sumP 0 gs + hs.sum ∧ x.1.length = gs.length ∧ GOk x.1
  | 0, gs, ths, _, g, x, hx => by
    unfold waysG at hx
    obtain rfl := List.mem_singleton.mp hx
    exact ⟨[], by simp, rfl, by simp, by simp, rfl, g⟩
  | l + 1, gs, ths, hl, g, x, hx => by
    unfold waysG at hx
    obtain ⟨h, hh, hx⟩ := List.mem_flatMap.mp hx
    have hk := hts_ok hh
    have hk' : (h = 0 ∧ memG gs 0 = false) ∨ (0 < h ∧ h ≤ 20 ∧ memG gs 0 = true ∧ memG gs h = false) := by
      rcases hk with h | ⟨h1, h2, h3, h4⟩
      · exact .inl h
      · exact .inr ⟨h1, by lia, h3, h4⟩
    have h12 : h < 12 := by rcases hk with h | h <;> lia
    obtain ⟨g', s2, s3, a, r, e, s4, s5⟩ := step_ok g hk'
    have hst := sum_step e s4 fun hp => ⟨by
      rcases hk with ⟨h1, _⟩ | ⟨_, _, h3, _⟩
      · lia
      · rw [e] at h3
        unfold memG at h3
        split at h3
        · cases h3
        · split at h3
          · lia
          · lia, s5 hp⟩
    obtain ⟨hs, e1, e2, e3, e4, e5, e6⟩ := ways_facts l (stepG gs h) (ths ++ [h]) (by lia) g' x hx
    refine ⟨h :: hs, by rw [e1]; simp, by simp [e2], fun y hy => ?_, ?_, e5.trans s2, e6⟩
    · rcases List.mem_cons.mp hy with rfl | hy
      · exact h12
      · exact e3 y hy
    · rw [s2] at e4
      rw [List.sum_cons, Nat.succ_mul]; lia
theorem hts_up (q : Nat → Bool) (gs : List Nat) (l : Nat) : (hts q gs l).Pairwise (· < ·) := by
  unfold hts
  split
  · refine List.Pairwise.filter _ ?_
    rw [List.pairwise_map]
    exact List.pairwise_lt_range.imp fun h => by lia
  · simp
theorem ways_up {q : Nat → Bool} : ∀ (l : Nat) (gs ths : List Nat), l ≤ 4 → GOk gs → (waysG q l gs ths).Pairwise fun x y => valF 0 x.2 < valF 0 y.2
  | 0, gs, ths, _, g => by unfold waysG; simp
  | l + 1, gs, ths, hl, g => by
    have ok : ∀ h ∈ hts q gs (l + 1), GOk (stepG gs h) := fun h hh => by
      have hk := hts_ok hh
      have hk' : (h = 0 ∧ memG gs 0 = false) ∨ (0 < h ∧ h ≤ 20 ∧ memG gs 0 = true ∧ memG gs h = false) := by
        rcases hk with h | ⟨h1, h2, h3, h4⟩
        · exact .inl h
        · exact .inr ⟨h1, by lia, h3, h4⟩
      exact (step_ok g hk').1
    unfold waysG
    rw [List.pairwise_flatMap]
    refine ⟨fun h hh => ways_up l _ _ (by lia) (ok h hh), (hts_up q gs (l + 1)).imp_of_mem fun {a b} ha hb hab x hx y hy => ?_⟩
    obtain ⟨hs, e1, e2, e3, _⟩ := ways_facts l _ _ (by lia) (ok a ha) x hx
    obtain ⟨ks, f1, f2, f3, _⟩ := ways_facts l _ _ (by lia) (ok b hb) y hy
    rw [e1, f1, val_app, val_app _ ks, val_app, val_app ths [b]]
    have b1 := val_hi hs (valF (valF 0 ths) [a]) fun h hh => by have := e3 h hh; lia
    have b2 := val_lo ks (valF (valF 0 ths) [b])
    refine Nat.lt_of_lt_of_le b1 (Nat.le_trans ?_ b2)
    rw [e2, f2]
    refine Nat.mul_le_mul_right _ ?_
    show 64 * valF 0 ths + a + 1 ≤ 64 * valF 0 ths + b
    lia
theorem cnt_set : ∀ {S : List Nat} {n : Nat}, S.Nodup → (∀ k ∈ S, k < n) → cnt (inS S) n = S.length
  | [], n, _, _ => by
    have : ∀ n, cnt (inS []) n = 0 := by
      intro n
      induction n with
      | zero => rfl
      | succ n ih => unfold cnt; rw [ih]; simp [inS]
    exact this n
  | a :: r, n, hn, h8 => by
    have hn' := List.nodup_cons.mp hn
    have e : inS (a :: r) = ins' a (inS r) := by
      funext k
      unfold inS ins'
      rw [Bool.eq_iff_iff]; simp
    rw [e, cnt_ins (by unfold inS; simpa using hn'.1), cnt_set hn'.2 fun k hk => h8 k (.tail _ hk), if_pos (h8 a (.head _))]; rfl
theorem dc_map (f g : Nat → Nat) : ∀ n, dc ((List.range n).map f) ((List.range n).map g) = cnt (fun k => f k != g k) n
  | 0 => rfl
  | n + 1 => by
    rw [List.range_succ, List.map_append, List.map_append, dc_append (by simp), dc_map f g n]
    show _ = cnt (fun k => f k != g k) n + (f n != g n).toNat
    simp only [List.map_cons, List.map_nil, dc, Nat.add_zero]
    by_cases h : f n = g n
    · rw [if_pos h]; simp [h]
    · rw [if_neg h, show (f n != g n) = true from bne_iff_ne.mpr h]; rfl
theorem dc_letters (S T : List Nat) : dc (lettersL S) (lettersL T) = cnt (fun k => inS S k != inS T k) 8 := by
  unfold lettersL
  rw [dc_map]
  refine cnt_congr fun k hk => ?_
  unfold inS
  by_cases h1 : k ∈ S <;> by_cases h2 : k ∈ T <;> simp [h1, h2]
  all_goals omega
theorem cnt_xor (R Q : Nat → Bool) : ∀ n, cnt (fun k => R k != Q k) n + 2 * cnt (fun k => R k && Q k) n = cnt R n + cnt Q n
  | 0 => rfl
  | n + 1 => by
    have := cnt_xor R Q n
    unfold cnt
    cases R n <;> cases Q n <;> simp <;> lia
theorem cnt_minus (R Q : Nat → Bool) : ∀ n, cnt (fun k => R k && !Q k) n + cnt (fun k => R k && Q k) n = cnt R n
  | 0 => rfl
  | n + 1 => by
    have := cnt_minus R Q n
    unfold cnt
    cases R n <;> cases Q n <;> simp <;> lia
theorem far_is {U G : List Nat} (hU : U.Nodup) (hU8 : ∀ k ∈ U, k < 8) (hG : G.Nodup) (hG8 : ∀ k ∈ G, k < 8) (hl : U.length ≤ G.length) : dc (lettersL U) (lettersL G) = (G.length - U.length) + 2 * (U.filter fun k => !decide (k ∈ G)).length := by
  have h1 := cnt_xor (inS U) (inS G) 8
  have h2 := cnt_minus (inS U) (inS G) 8
  have h3 : cnt (fun k => inS U k && !inS G k) 8 = (U.filter fun k => !decide (k ∈ G)).length := by
    have e : (fun k => inS U k && !inS G k) = inS (U.filter fun k => !decide (k ∈ G)) := by
      funext k
      unfold inS
      rw [Bool.eq_iff_iff]; simp
    rw [e]
    exact cnt_set (hU.filter _) fun k hk => hU8 k (List.mem_filter.mp hk).1
  rw [dc_letters]
  rw [cnt_set hU hU8, cnt_set hG hG8] at h1
  rw [cnt_set hU hU8, h3] at h2
  lia
theorem lett_of (S T : List Nat) : Lett (lettersL S) (lettersL T) := by
  have key : ∀ S : List Nat, ∀ x ∈ lettersL S, x ∈ lets := fun S x hx => by
    obtain ⟨k, hk, rfl⟩ := List.mem_map.mp hx
    unfold lets
    rw [List.mem_append]
    split
    · exact .inl (List.mem_map.mpr ⟨k, hk, rfl⟩)
    · exact .inr (List.mem_map.mpr ⟨k, hk, rfl⟩)
  have at' : ∀ (S : List Nat) (j x : Nat), (lettersL S)[j]? = some x → j < 8 ∧ (x = 65 + j ∨ x = 97 + j) := fun S j x h => by
    unfold lettersL at h
    rw [List.getElem?_map] at h
    obtain ⟨k, hk, rfl⟩ := omap h
    obtain ⟨h1, h2⟩ := List.getElem?_eq_some_iff.mp hk
    simp at h1 h2
    subst h2
    refine ⟨h1, ?_⟩
    split
    · exact .inl rfl
    · exact .inr rfl
  refine ⟨key S, key T, by simp [lettersL], fun i j x y h1 h2 => ?_⟩
  obtain ⟨hj, hx⟩ := at' S j x h1
  obtain ⟨hi, hy⟩ := at' T i y h2
  unfold sub
  by_cases e : i = j
  · subst e
    rw [if_pos rfl]
    by_cases hxy : x = y
    · rw [if_pos hxy.symm, if_pos hxy]
    · rw [if_neg (fun q => hxy q.symm), if_neg hxy, if_pos (by lia)]
  · rw [if_neg e, if_neg (by lia), if_neg (by lia)]
theorem letters_len (S : List Nat) : (lettersL S).length = 8 := by simp [lettersL]
end Mine
end

section
open PySem PySem.Calls PyProof.Rows PySem.W
set_option maxRecDepth 100000
namespace Mine
theorem and_lo : ∀ h : Nat, h < 64 → Builtin.bitAnd ((64 + h : Nat) : Int) 63 = (h : Int) ∧ Builtin.bitAnd ((64 + h : Nat) : Int) 64 = 64 ∧ Builtin.bitAnd (h : Int) 63 = (h : Int) ∧ Builtin.bitAnd (h : Int) 64 = 0 := by decide +kernel
theorem or_nat (a b : Nat) : Builtin.bitOr (a : Int) (b : Int) = ((a ||| b : Nat) : Int) := by
  have n1 : Builtin.bitNot (a : Int) = -(a : Int) - 1 := by unfold Builtin.bitNot; lia
  have n2 : Builtin.bitNot (b : Int) = -(b : Int) - 1 := by unfold Builtin.bitNot; lia
  unfold Builtin.bitOr Builtin.bitAnd
  rw [n1, n2, decide_eq_false (by lia), decide_eq_false (by lia)]
  dsimp only
  have n3 : (Builtin.bitNot (-(a : Int) - 1)).toNat = a := by unfold Builtin.bitNot; lia
  have n4 : (Builtin.bitNot (-(b : Int) - 1)).toNat = b := by unfold Builtin.bitNot; lia
  rw [n3, n4]
  unfold Builtin.bitNot
  lia
theorem or_val {v h : Nat} (hh : h < 64) : (64 * v) ||| h = 64 * v + h := by
  have := Nat.two_pow_add_eq_or_of_lt (i := 6) (b := h) (by lia) v
  have e : (2 : Nat) ^ 6 = 64 := by decide
  rw [e] at this
  exact this.symm
noncomputable def octs : List Nat → List Nat
  | [] => []
  | h :: r => (match r with
    | [] => h
    | _ :: _ => 64 + h) :: octs r
theorem next_eq {i k : Nat} {ρ r : List DV} {d : DV} {α : Air} (h : (i != k) = true) : kNext i k ⟨ρ, some (k, .it (d :: r)), α⟩ = some (.next, ⟨ρ.set i d, some (k, .it r), α⟩) := by
  unfold kNext
  dsimp only
  rw [if_pos (by simpa using h)]
noncomputable def Tv : List DV → Air → Option (Bool × Air) := gPT (mTru (mBin .BitAnd (mVar 1) (mInt 64)))
noncomputable def Bv : SF := kSeq (kAug .LShift 2 (gP (mInt 6))) (kSeq (kNext 1 0) (kSeq (kAug .BitOr 2 (gP (mBin .BitAnd (mVar 1) (mInt 63)))) kNil))
theorem oct_lo {h : Nat} {r : List Nat} (hh : h < 64) : ∃ o : Nat, octs (h :: r) = o :: octs r ∧ Builtin.bitAnd (o : Int) 63 = (h : Int) ∧ Builtin.bitAnd (o : Int) 64 = if r = [] then 0 else 64 := by
  have := and_lo h hh
  cases r with
  | nil => exact ⟨h, rfl, this.2.2.1, this.2.2.2⟩
  | cons a r => exact ⟨64 + h, rfl, this.1, this.2.1⟩
theorem varint_go {α : Air} : ∀ (r : List Nat) (fuel v o : Nat), r.length < fuel → r.length ≤ 4 → v < 64 ^ (5 - r.length) → (∀ h ∈ r, h < 64) → Builtin.bitAnd (o : Int) 64 = (if r = [] then 0 else 64) →
    ∃ o' : DV, whGo Tv Bv fuel ⟨[.undef, nat o, nat v], some (0, .it ((octs r).map nat)), α⟩ = some (.next, ⟨[.undef, o', nat (valF v r)], some (0, .it []), α⟩)
  | [], fuel + 1, v, o, _, _, _, _, ho => by
    rw [if_pos rfl] at ho
    refine ⟨nat o, wh_f ?_⟩
    unfold Tv
    refine pt_eq (mtru_eq (a := .int 0) (mbin_eq (a := nat o) (b := .int 64) rfl rfl ?_) rfl)
    show some (DV.int (Builtin.bitAnd (o : Int) 64)) = _
    rw [ho]
  | h :: r, fuel + 1, v, o, hf, hl, hv, hh, ho => by
    simp only [List.length_cons] at hf hl hv
    rw [if_neg (by simp)] at ho
    obtain ⟨o', e1, e2, e3⟩ := oct_lo (h := h) (r := r) (hh h (.head _))
    have hh' := hh h (.head _)
    have hv60 : v < 2 ^ 60 := Nat.lt_of_lt_of_le hv (Nat.le_trans (Nat.pow_le_pow_right (by decide) (show 5 - (r.length + 1) ≤ 4 by lia)) (by decide))
    have hv' : 64 * v + h < 64 ^ (5 - r.length) := by
      rw [show 5 - r.length = 5 - (r.length + 1) + 1 by lia, Nat.pow_succ]; lia
    obtain ⟨o'', e4⟩ := varint_go (α := α) r fuel (64 * v + h) o' (by lia) (by lia) hv' (fun x hx => hh x (.tail _ hx)) e3
    refine ⟨o'', Eq.trans (wh_t (β := α) (σ' := ⟨[.undef, nat o', nat (64 * v + h)], some (0, .it ((octs r).map nat)), α⟩) ?_ ?_) e4⟩
    · unfold Tv
      refine pt_eq (mtru_eq (a := .int 64) (mbin_eq (a := nat o) (b := .int 64) rfl rfl ?_) rfl)
      show some (DV.int (Builtin.bitAnd (o : Int) 64)) = _
      rw [ho]
    · unfold Bv
      rw [e1, List.map_cons]
      refine st_aug (a := nat v) (e := .int 6) (d := nat (64 * v)) rfl rfl (p_eq rfl) ?_ ?_
      · show (if (0 : Int) ≤ 6 ∧ (6 : Int) ≤ 1000 ∧ (v : Int).natAbs < 2 ^ 60 then some (DV.int ((v : Int) * 2 ^ (6 : Int).toNat)) else none) = _
        rw [if_pos ⟨by decide, by decide, by rw [Int.natAbs_natCast]; exact hv60⟩]
        show some (DV.int ((v : Int) * 64)) = some (DV.int ((64 * v : Nat) : Int))
        congr 2; lia
      refine st_do (next_eq rfl) ?_
      refine st_aug (a := nat (64 * v)) (e := nat h) (d := nat (64 * v + h)) rfl rfl (p_eq (mbin_eq (a := nat o') (b := .int 63) rfl rfl ?_)) ?_ rfl
      · show some (DV.int (Builtin.bitAnd (o' : Int) 63)) = _
        rw [e2]; rfl
      · show some (DV.int (Builtin.bitOr ((64 * v : Nat) : Int) (h : Int))) = _
        rw [or_nat, or_val hh']; rfl
theorem varint_of {hs : List Nat} {f : List DV → Option DV} {ρ : List DV} {α : Air} (h1 : 1 ≤ hs.length) (h4 : hs.length ≤ 4) (hh : ∀ h ∈ hs, h < 64) (hf : f ρ = some (tv (octs hs))) : gIt 2 F_varint f ρ α = some (nat (valF 0 hs), α) := by
  match hs, h1 with
  | h :: r, _ =>
    simp only [List.length_cons] at h4
    obtain ⟨o, e1, e2, e3⟩ := oct_lo (h := h) (r := r) (hh h (.head _))
    have hh' := hh h (.head _)
    obtain ⟨o', e4⟩ := varint_go (α := α) r 6 h o (by lia) (by lia) (Nat.lt_of_lt_of_le hh' (by
      have : 64 ^ 1 ≤ 64 ^ (5 - r.length) := Nat.pow_le_pow_right (by decide) (by lia)
      simpa using this)) (fun x hx => hh x (.tail _ hx)) e3
    have e : F_varint ⟨[.undef, .undef, .undef], some (0, .it ((octs (h :: r)).map nat)), α⟩ = some (.ret (nat (valF 0 (h :: r))), ⟨[.undef, o', nat (valF h r)], some (0, .it []), α⟩) := by
      unfold F_varint
      rw [e1, List.map_cons]
      refine st_do (next_eq rfl) ?_
      refine st_setp (d := nat h) rfl (mbin_eq (a := nat o) (b := .int 63) rfl rfl ?_) ?_
      · show some (DV.int (Builtin.bitAnd (o : Int) 63)) = _
        rw [e2]; rfl
      refine st_do e4 ?_
      refine st_ret (p_eq ?_)
      show some (nat (valF h r)) = some (nat (valF (64 * 0 + h) r))
      rw [show 64 * 0 + h = h by lia]
    unfold gIt
    rw [hf, Option.bind_some]
    show (F_varint ⟨[.undef, .undef, .undef], some (0, .it ((octs (h :: r)).map nat)), α⟩).bind _ = _
    rw [e]; rfl
theorem octs_eq : ∀ (hs : List Nat), octs hs = (hs.take (hs.length - 1)).map (64 + ·) ++ hs.drop (hs.length - 1)
  | [] => rfl
  | [h] => rfl
  | h :: a :: r => by
    have ih := octs_eq (a :: r)
    show (64 + h) :: octs (a :: r) = _
    rw [ih]
    simp
end Mine
end

section
open PySem PySem.Calls PyProof.Rows PySem.W
set_option maxRecDepth 100000
namespace Mine
section
variable {S G U ns : List Nat} {p dn st fr : Nat} {tot : Int} {α : Air} {Gg : List Nat}
theorem push_eq {k : Nat} {f : List DV → Air → Option (DV × Air)} {ρ ds : List DV} {α β : Air} {d : DV} (h : f ρ α = some (d, β)) (hl : ds.length + 1 ≤ sizeB) : kPush k f ⟨ρ, some (k, .lst ds), α⟩ = some (.next, ⟨ρ, some (k, .lst (ds ++ [d])), β⟩) := by
  unfold kPush
  rw [show ownL ⟨ρ, some (k, .lst ds), α⟩ = some (k, ds) from rfl, Option.bind_some]
  dsimp only
  rw [if_pos (by simp), h, Option.bind_some]
  dsimp only
  rw [if_pos hl]
theorem slice_last {hs : List Nat} (h : 1 ≤ hs.length) : sliceD (tv hs) none (some (-1)) = some (tv (hs.take (hs.length - 1))) := by
  show some (DV.lst (pick (hs.map nat) none (some (-1)))) = _
  rw [pick_map, pick_eq]
  have e1 : clipN (some (-1)) hs.length hs.length = hs.length - 1 := clipN_neg (k := 1) (Nat.le_refl _)
  have e2 : clipN none 0 hs.length = 0 := rfl
  rw [e1, e2, List.drop_zero, Nat.sub_zero]; rfl
theorem slice_lastF {hs : List Nat} (h : 1 ≤ hs.length) : sliceD (tv hs) (some (-1)) none = some (tv (hs.drop (hs.length - 1))) := by
  show some (DV.lst (pick (hs.map nat) (some (-1)) none)) = _
  rw [pick_map, pick_eq]
  have e1 : clipN (some (-1)) 0 hs.length = hs.length - 1 := clipN_neg (k := 1) (Nat.le_refl _)
  have e2 : clipN none hs.length hs.length = hs.length := rfl
  rw [e1, e2, List.take_of_length_le (by simp)]; rfl
theorem inner_self {vis : List Nat} {j k : Nat} {ρ : List DV} (h : j < ρ.length) : mVar j (inner vis j (nat k) ρ) = some (nat k) := by
  unfold mVar
  rw [inner_get, List.getElem?_eq_getElem h, Option.map_some, if_pos rfl]; rfl
theorem inner_vis {vis : List Nat} {i j : Nat} {e d : DV} {ρ : List DV} (hv : vis.contains i = true) (hj : i ≠ j) (h : mVar i ρ = some d) : mVar i (inner vis j e ρ) = some d := by
  obtain ⟨h1, h2⟩ := mVar_some h
  unfold mVar
  rw [inner_get, h1, Option.map_some, if_neg hj, if_pos hv]
  cases d <;> first | rfl | exact absurd rfl h2
theorem octs_code {hs : List Nat} {ρ : List DV} (h : 1 ≤ hs.length) (h4 : hs.length ≤ 4) (hρ : 18 < ρ.length) (v14 : mVar 14 ρ = some (tv hs)) (vk : ∀ k, mVar 18 (inner [] 18 (nat k) ρ) = some (nat k)) :
    mBin .Add (mComp 18 [] (mSlice (mVar 14) pNo (pAt (mNeg (mInt 1)))) mAndT (mBin .Add (mInt 64) (mVar 18))) (mSlice (mVar 14) (pAt (mNeg (mInt 1))) pNo) ρ = some (tv (octs hs)) := by
  have c := mComp_nat (j := 18) (vis := []) (fi := mSlice (mVar 14) pNo (pAt (mNeg (mInt 1)))) (fc := mAndT) (fe := mBin .Add (mInt 64) (mVar 18)) (ρ := ρ) (a := tv (hs.take (hs.length - 1))) (S := hs.take (hs.length - 1)) (p := fun _ => true) (g := fun k => nat (64 + k)) (mslice_eq v14 rfl rfl (slice_last h)) rfl hρ (fun _ _ => rfl) (fun k _ _ => ⟨mbin_eq (a := nat 64) rfl (vk k) rfl, rfl⟩)
  rw [List.filter_eq_self.mpr (fun _ _ => rfl)] at c
  refine mbin_eq c (mslice_eq v14 rfl rfl (slice_lastF h)) ?_
  show (if ((hs.take (hs.length - 1)).map fun k => nat (64 + k)).length + ((hs.drop (hs.length - 1)).map nat).length ≤ sizeB then some (DV.lst (((hs.take (hs.length - 1)).map fun k => nat (64 + k)) ++ (hs.drop (hs.length - 1)).map nat)) else none) = _
  rw [if_pos (by
    rw [List.length_map, List.length_map, List.length_take, List.length_drop]
    exact Nat.le_trans (show _ ≤ 8 by lia) (by decide))]
  rw [octs_eq]
  unfold tv
  rw [List.map_append, List.map_map]; rfl
noncomputable def henv (S G U : List Nat) (p dn st fr : Nat) (Gg : List Nat) (tot : Int) (v11 v12 v13 v14 v15 : DV) : List DV := [tv S, tv G, nat p, tv U, nat dn, nat st, nat fr, .str (rowT Gg), .int tot, .air, .undef, v11, v12, v13, v14, v15, .undef, .undef, .undef]
theorem ne_nat (a b : Nat) : cmpD .NotEq (nat a) (nat b) = some (a != b) := by
  show some ((a : Int) != (b : Int)) = _
  congr 1
  rw [Bool.eq_iff_iff]; simp; lia
theorem hold_step {x : List Nat × List Nat} {acc : List DV} {v15 : DV} (hl : x.1.length = S.length) (h1 : 1 ≤ x.2.length) (h4 : x.2.length ≤ 4) (h12 : ∀ h ∈ x.2, h < 12) (ha : acc.length + 1 ≤ sizeB) :
    ∃ w15, B_holds_1 ⟨henv S G U p dn st fr Gg tot (.str (rowT x.1)) (nat x.1.length) (nat (2 + wid x.1)) (tv x.2) v15, some (10, .lst acc), α⟩ = some (.next, ⟨henv S G U p dn st fr Gg tot (.str (rowT x.1)) (nat x.1.length) (nat (2 + wid x.1)) (tv x.2) w15, some (10, .lst (acc ++ if x.1 = Gg then [nat (valF 0 x.2)] else [])), α⟩) := by
  obtain ⟨f, hs⟩ := x
  dsimp only at hl h1 h4 h12 ⊢
  have c : cmpD .Eq (.str (rowT f)) (.str (rowT Gg)) = some (decide (f = Gg)) := by
    show some (ofL (rowL f) == ofL (rowL Gg)) = _
    rw [beq_ofL]
    congr 1
    exact decide_eq_decide.mpr ⟨row_inj, fun e => by rw [e]⟩
  by_cases e : f = Gg
  · refine ⟨tv (octs hs), ?_⟩
    rw [if_pos e]
    rw [decide_eq_true e] at c
    unfold B_holds_1
    rw [seq_nil]
    refine Eq.trans (if_t (pt_eq (mcmp_eq (a := .str (rowT f)) (b := .str (rowT Gg)) rfl rfl c))) ?_
    refine st_ifN (pt_eq (mor_f (mcmp_eq (a := nat f.length) (b := nat S.length) (t := false) rfl (mcall_eq (ds := [tv S]) (mlc_eq (r := lNil) (ds := []) rfl rfl) ?_) ?_) (mor_f (mcmp_eq (a := nat (2 + wid f)) (b := nat (2 + wid Gg)) (t := false) rfl (mbin_eq (a := nat 2) (b := nat (wid Gg)) rfl (mcall_eq (ds := [.str (rowT Gg)]) (mlc_eq (r := lNil) (ds := []) rfl rfl) (len_str _)) rfl) ?_) rfl))) ?_
    · show some (DV.int ((S.map nat).length : Int)) = _
      rw [List.length_map]; rfl
    · rw [ne_nat, hl]; simp
    · rw [ne_nat, e]; simp
    refine st_setp (d := tv (octs hs)) rfl (octs_code h1 h4 (show 18 < 19 by decide) rfl (fun k => inner_self (show 18 < 19 by decide))) ?_
    rw [seq_nil]
    exact push_eq (varint_of h1 h4 (fun h hh => by have := h12 h hh; lia) rfl) ha
  · refine ⟨v15, ?_⟩
    rw [if_neg e, List.append_nil]
    rw [decide_eq_false e] at c
    unfold B_holds_1
    rw [seq_nil]
    exact Eq.trans (if_f (pt_eq (mcmp_eq (a := .str (rowT f)) (b := .str (rowT Gg)) rfl rfl c))) rfl
theorem for_tup4 {F H : SF} {a b c d : DV} {r ρ : List DV} {o : OwnK} {α : Air} {σ' : St} (h : F ⟨(((ρ.set 11 a).set 12 b).set 13 c).set 14 d, some (10, o), α⟩ = some (.next, σ')) : forGo (tTup 4 (tCons (tName 11) (tCons (tName 12) (tCons (tName 13) (tCons (tName 14) tNil))))) F H (.tup [a, b, c, d] :: r) ⟨ρ, some (10, o), α⟩ = forGo (tTup 4 (tCons (tName 11) (tCons (tName 12) (tCons (tName 13) (tCons (tName 14) tNil))))) F H r σ' := by
  rw [forGo]
  have e : tTup 4 (tCons (tName 11) (tCons (tName 12) (tCons (tName 13) (tCons (tName 14) tNil)))) (.tup [a, b, c, d]) ⟨ρ, some (10, o), α⟩ = some ⟨(((ρ.set 11 a).set 12 b).set 13 c).set 14 d, some (10, o), α⟩ := rfl
  rw [e, Option.bind_some, h]; rfl
theorem hold_go : ∀ (res : List (List Nat × List Nat)) (acc : List DV) (v11 v12 v13 v14 v15 : DV), (∀ x ∈ res, x.1.length = S.length ∧ 1 ≤ x.2.length ∧ x.2.length ≤ 4 ∧ ∀ h ∈ x.2, h < 12) → acc.length + res.length ≤ 100000 →
    ∃ w11 w12 w13 w14 w15, forGo (tTup 4 (tCons (tName 11) (tCons (tName 12) (tCons (tName 13) (tCons (tName 14) tNil))))) B_holds_1 kNil (res.map resD) ⟨henv S G U p dn st fr Gg tot v11 v12 v13 v14 v15, some (10, .lst acc), α⟩ = some (.next, ⟨henv S G U p dn st fr Gg tot w11 w12 w13 w14 w15, some (10, .lst (acc ++ ((res.filter fun x => decide (x.1 = Gg)).map fun x => valF 0 x.2).map nat)), α⟩)
  | [], acc, v11, v12, v13, v14, v15, _, _ => ⟨v11, v12, v13, v14, v15, by simp; rfl⟩
  | x :: r, acc, v11, v12, v13, v14, v15, hx, hl => by
    simp only [List.length_cons] at hl
    obtain ⟨a1, a2, a3, a4⟩ := hx x (.head _)
    obtain ⟨u15, e1⟩ := hold_step (S := S) (G := G) (U := U) (p := p) (dn := dn) (st := st) (fr := fr) (Gg := Gg) (tot := tot) (α := α) (x := x) (acc := acc) (v15 := v15) a1 a2 a3 a4 (Nat.le_trans (show acc.length + 1 ≤ 100000 by lia) (by decide))
    obtain ⟨w11, w12, w13, w14, w15, e2⟩ := hold_go r (acc ++ if x.1 = Gg then [nat (valF 0 x.2)] else []) (.str (rowT x.1)) (nat x.1.length) (nat (2 + wid x.1)) (tv x.2) u15 (fun y hy => hx y (.tail _ hy)) (by rw [List.length_append]; split <;> simp <;> lia)
    refine ⟨w11, w12, w13, w14, w15, ?_⟩
    rw [List.map_cons]
    refine Eq.trans (for_tup4 e1) (e2.trans ?_)
    rw [List.filter_cons]
    by_cases e : x.1 = Gg
    · rw [if_pos e, if_pos (by simpa using e)]; simp
    · rw [if_neg e, if_neg (by simpa using e)]; simp
end
end Mine
end

section
open PySem PySem.Calls PyProof.Rows PySem.W
set_option maxRecDepth 100000
namespace Mine
noncomputable def tailH : SF := (kSeq (kIf (gCmp .NotEq (gP (mCall lenD (lCons (mVar 10) lNil))) (gIf (gPT (mCmp .Eq (mVar 6) (mVar 4))) (gCall G_product (glCons (gP (mVar 0)) (glCons (gP (mVar 2)) glNil))) (gP (mInt 0)))) (kSeq (kRet (gP (mBool false))) kNil) kNil) (kSeq (kIf (gPT (gNe (mComp 17 [8] (mVar 10) (mCmp .NotEq (mBin .Mod (mVar 17) (mInt 63)) (mVar 8)) (mVar 17)))) (kSeq (kRet (gP (mBool false))) kNil) kNil) (kSeq (kIf (gPT (gNe (mComp 16 [10] (mCall rangeD (lCons (mInt 1) (lCons (mCall lenD (lCons (mVar 10) lNil)) lNil))) (mCmp .GtE (mIdx (mVar 10) (mBin .Sub (mVar 16) (mInt 1))) (mIdx (mVar 10) (mVar 16))) (mVar 16)))) (kSeq (kRet (gP (mBool false))) kNil) kNil) (kSeq (kRet (gCmpV .Eq (gStr G_str (mVar 9)) (gCall G_row (glCons (gP (mVar 0)) glNil)))) kNil))))
section
variable {S G U ns : List Nat} {p dn st fr : Nat} {tot : Int} {α β : Air} {Gg : List Nat}
theorem gcmp_eq {op : CmpOp} {f g : List DV → Air → Option (DV × Air)} {ρ : List DV} {α β γ : Air} {a b : DV} {t : Bool} (h1 : f ρ α = some (a, β)) (h2 : g ρ β = some (b, γ)) (h3 : cmpD op a b = some t) : gCmp op f g ρ α = some (t, γ) := by
  unfold gCmp; rw [h1, Option.bind_some, h2, Option.bind_some, h3]; rfl
theorem gcmpv_eq {op : CmpOp} {f g : List DV → Air → Option (DV × Air)} {ρ : List DV} {α γ : Air} {t : Bool} (h : gCmp op f g ρ α = some (t, γ)) : gCmpV op f g ρ α = some (.bool t, γ) := by
  unfold gCmpV; rw [h]; rfl
theorem gif_t {t : List DV → Air → Option (Bool × Air)} {f g : List DV → Air → Option (DV × Air)} {ρ : List DV} {α β : Air} {r : Option (DV × Air)} (h : t ρ α = some (true, β)) (hf : f ρ β = r) : gIf t f g ρ α = r := by
  unfold gIf; rw [h]; exact hf
theorem gif_f {t : List DV → Air → Option (Bool × Air)} {f g : List DV → Air → Option (DV × Air)} {ρ : List DV} {α β : Air} {r : Option (DV × Air)} (h : t ρ α = some (false, β)) (hf : g ρ β = r) : gIf t f g ρ α = r := by
  unfold gIf; rw [h]; exact hf
theorem ne_nil {f : List DV → Option DV} {ρ : List DV} (h : f ρ = some (.lst [])) : gNe f ρ = some false := by
  unfold gNe; rw [h]; rfl
theorem eq_nat (a b : Nat) : cmpD .Eq (nat a) (nat b) = some (decide (a = b)) := by
  show some ((a : Int) == (b : Int)) = _
  congr 1
  rw [Bool.eq_iff_iff]; simp; lia
theorem len_tv (l : List Nat) : lenD [tv l] = some (nat l.length) := by
  show some (DV.int ((l.map nat).length : Int)) = _
  rw [List.length_map]; rfl
theorem rng_big {a b : Nat} (ha : a ≤ 100000) (hb : b ≤ 100000) : rngD (a : Int) (b : Int) 1 = some (.rng a 1 (b - a)) := by
  have h1 : Builtin.Range.rangeSize (a : Int) (b : Int) 1 = ((b - a : Nat) : Int) := by
    unfold Builtin.Range.rangeSize
    simp
    split <;> lia
  have h2 : Builtin.Range.small (a : Int) (b : Int) 1 = true := by
    unfold Builtin.Range.small
    rw [h1]
    simp [Builtin.Range.rangeFitsLong]
    omega
  unfold rngD
  rw [h1, h2, if_pos ⟨by decide, by decide, rfl, by lia, by lia⟩]; rfl
theorem idx_tv {l : List Nat} {k x : Nat} (h : l[k]? = some x) (hl : l.length ≤ 100000) : idxD (tv l) (nat k) = some (nat x) := by
  show (if (l.map nat).length ≤ sizeB then at? (l.map nat) (k : Int) else none) = _
  rw [if_pos (by rw [List.length_map]; exact Nat.le_trans hl (by decide))]
  unfold at?
  rw [if_pos (by lia), List.getElem?_map, Int.toNat_natCast, h]; rfl
noncomputable def henvF (S G U : List Nat) (p dn st fr : Nat) (Gg : List Nat) (tot : Int) (ns : List Nat) (v11 v12 v13 v14 v15 : DV) : List DV := [tv S, tv G, nat p, tv U, nat dn, nat st, nat fr, .str (rowT Gg), .int tot, .air, tv ns, v11, v12, v13, v14, v15, .undef, .undef, .undef]
theorem mod_none {ρ : List DV} (h17 : 17 < ρ.length) (h10 : mVar 10 ρ = some (tv ns)) (h8 : mVar 8 ρ = some (.int tot)) (hmod : ∀ v ∈ ns, (v : Int).fmod 63 = tot) :
    mComp 17 [8] (mVar 10) (mCmp .NotEq (mBin .Mod (mVar 17) (mInt 63)) (mVar 8)) (mVar 17) ρ = some (.lst []) := by
  have c := mComp_nat (j := 17) (vis := [8]) (fi := mVar 10) (fc := mCmp .NotEq (mBin .Mod (mVar 17) (mInt 63)) (mVar 8)) (fe := mVar 17) (ρ := ρ) (a := tv ns) (S := ns) (p := fun _ => false) (g := nat) h10 rfl h17 (fun k hk => ?_) (fun k _ hf => by cases hf)
  · rw [List.filter_eq_nil_iff.mpr (fun _ _ => by decide)] at c
    exact c
  · refine mcmp_eq (a := .int ((k : Int).fmod 63)) (b := .int tot) (mbin_eq (a := nat k) (b := .int 63) (inner_self h17) rfl ?_) (inner_vis rfl (by decide) h8) ?_
    · show (if (63 : Int) = 0 then none else some (DV.int ((k : Int).fmod 63))) = _
      rw [if_neg (by decide)]
    · show some ((k : Int).fmod 63 != tot) = _
      rw [hmod k hk]; simp
theorem up_none {ρ : List DV} (h16 : 16 < ρ.length) (h10 : mVar 10 ρ = some (tv ns)) (hl : ns.length ≤ 100000) (hup : ns.Pairwise (· < ·)) :
    mComp 16 [10] (mCall rangeD (lCons (mInt 1) (lCons (mCall lenD (lCons (mVar 10) lNil)) lNil))) (mCmp .GtE (mIdx (mVar 10) (mBin .Sub (mVar 16) (mInt 1))) (mIdx (mVar 10) (mVar 16))) (mVar 16) ρ = some (.lst []) := by
  have c := mComp_nat (j := 16) (vis := [10]) (fi := mCall rangeD (lCons (mInt 1) (lCons (mCall lenD (lCons (mVar 10) lNil)) lNil))) (fc := mCmp .GtE (mIdx (mVar 10) (mBin .Sub (mVar 16) (mInt 1))) (mIdx (mVar 10) (mVar 16))) (fe := mVar 16) (ρ := ρ) (a := .rng 1 1 (ns.length - 1)) (S := (List.range (ns.length - 1)).map (1 + ·)) (p := fun _ => false) (g := nat)
    (mcall_eq (ds := [nat 1, nat ns.length]) (mlc_eq rfl (mlc_eq (mcall_eq (mlc_eq (r := lNil) (ds := []) h10 rfl) (len_tv ns)) rfl)) ((range_2 _ _).trans (rng_big (a := 1) (b := ns.length) (by lia) hl))) items_rng h16 (fun k hk => ?_) (fun k _ hf => by cases hf)
  · rw [List.filter_eq_nil_iff.mpr (fun _ _ => by decide)] at c
    exact c
  · obtain ⟨t, ht, rfl⟩ := List.mem_map.mp hk
    have ht := List.mem_range.mp ht
    obtain ⟨x, hx⟩ : ∃ x, ns[t]? = some x := ⟨_, List.getElem?_eq_getElem (by omega)⟩
    obtain ⟨y, hy⟩ : ∃ y, ns[1 + t]? = some y := ⟨_, List.getElem?_eq_getElem (by omega)⟩
    have hxy : x < y := by
      obtain ⟨a1, a2⟩ := List.getElem?_eq_some_iff.mp hx
      obtain ⟨b1, b2⟩ := List.getElem?_eq_some_iff.mp hy
      have := List.pairwise_iff_getElem.mp hup t (1 + t) a1 b1 (by lia)
      lia
    have v10 := inner_vis (vis := [10]) (j := 16) (e := nat (1 + t)) (i := 10) (by decide) (by decide) h10
    refine mcmp_eq (a := nat x) (b := nat y) (midx_eq (a := tv ns) (b := nat t) v10 (mbin_eq (a := nat (1 + t)) (b := .int 1) (inner_self h16) rfl ?_) (idx_tv hx hl)) (midx_eq (a := tv ns) (b := nat (1 + t)) v10 (inner_self h16) (idx_tv hy hl)) ?_
    · show some (DV.int (((1 + t : Nat) : Int) - 1)) = some (DV.int (t : Int))
      congr 2; lia
    · show some (decide ((x : Int) ≥ (y : Int))) = _
      rw [decide_eq_false (by lia)]
theorem tail_of {v11 v12 v13 v14 v15 : DV} {gS : List Nat} (hS : S ∈ sets) (h1 : 1 ≤ p) (h4 : p ≤ 4) (hg : gS = gapsF 0 S) (hw : wid gS ≤ 100) (hcnt : ns.length = if fr = dn then Pc 0 (inS S) p else 0) (hmod : ∀ v ∈ ns, (v : Int).fmod 63 = tot) (hl : ns.length ≤ 100000) (hup : ns.Pairwise (· < ·)) :
    tailH ⟨henvF S G U p dn st fr Gg tot ns v11 v12 v13 v14 v15, none, some (pieces gS)⟩ = some (.ret (.bool true), ⟨henvF S G U p dn st fr Gg tot ns v11 v12 v13 v14 v15, none, some (pieces gS)⟩) := by
  have w0 : mVar 0 (henvF S G U p dn st fr Gg tot ns v11 v12 v13 v14 v15) = some (tv S) := rfl
  have w2 : mVar 2 (henvF S G U p dn st fr Gg tot ns v11 v12 v13 v14 v15) = some (nat p) := rfl
  have w4 : mVar 4 (henvF S G U p dn st fr Gg tot ns v11 v12 v13 v14 v15) = some (nat dn) := rfl
  have w6 : mVar 6 (henvF S G U p dn st fr Gg tot ns v11 v12 v13 v14 v15) = some (nat fr) := rfl
  have w8 : mVar 8 (henvF S G U p dn st fr Gg tot ns v11 v12 v13 v14 v15) = some (.int tot) := rfl
  have w9 : mVar 9 (henvF S G U p dn st fr Gg tot ns v11 v12 v13 v14 v15) = some .air := rfl
  have w10 : mVar 10 (henvF S G U p dn st fr Gg tot ns v11 v12 v13 v14 v15) = some (tv ns) := rfl
  have wl : (henvF S G U p dn st fr Gg tot ns v11 v12 v13 v14 v15).length = 19 := rfl
  generalize henvF S G U p dn st fr Gg tot ns v11 v12 v13 v14 v15 = ρ at *
  unfold tailH
  have c6 : gPT (mCmp .Eq (mVar 6) (mVar 4)) ρ (some (pieces gS)) = some (decide (fr = dn), some (pieces gS)) := pt_eq (mcmp_eq w6 w4 (eq_nat fr dn))
  refine st_ifN (α' := some (pieces gS)) ?_ ?_
  · by_cases h : fr = dn
    · rw [if_pos h] at hcnt
      rw [decide_eq_true h] at c6
      refine gcmp_eq (a := nat ns.length) (b := nat (Pc 0 (inS S) p)) (p_eq (mcall_eq (mlc_eq (r := lNil) (ds := []) w10 rfl) (len_tv ns))) (gif_t c6 (call_eq (lcons_eq (p_eq w0) (lcons_eq (p_eq w2) rfl)) (prod_of hS h1 h4 _))) ?_
      rw [ne_nat, hcnt]; simp
    · rw [if_neg h] at hcnt
      rw [decide_eq_false h] at c6
      refine gcmp_eq (a := nat ns.length) (b := nat 0) (p_eq (mcall_eq (mlc_eq (r := lNil) (ds := []) w10 rfl) (len_tv ns))) (gif_f c6 rfl) ?_
      rw [ne_nat, hcnt]; simp
  refine st_ifN (pt_eq (ne_nil (mod_none (by lia) w10 w8 hmod))) ?_
  refine st_ifN (pt_eq (ne_nil (up_none (by lia) w10 hl hup))) ?_
  refine st_ret (gcmpv_eq (gcmp_eq (a := .str (rowT gS)) (b := .str (rowT gS)) (str_eq' w9 (str_of hw)) (call_eq (lcons_eq (p_eq w0) rfl) (hg ▸ row_of hS _)) ?_))
  show some (ofL (rowL gS) == ofL (rowL gS)) = some true
  rw [beq_ofL, decide_eq_true rfl]
end
end Mine
end

section
open PySem PySem.Calls PyProof.Rows PySem.W
set_option maxRecDepth 100000
namespace Mine
theorem sumZ : ∀ (l : List Nat), (l.map fun (k : Nat) => (k : Int)).sum = ((l.sum : Nat) : Int)
  | [] => rfl
  | a :: r => by rw [List.map_cons, List.sum_cons, sumZ r, List.sum_cons]; lia
theorem sum_tv (l : List Nat) : sumD [tv l] = some (nat l.sum) := by
  show (asInts (l.map nat)).map (fun ns => DV.int ns.sum) = _
  rw [asInts_tv, Option.map_some, sumZ]; rfl
theorem strays_comp {U G : List Nat} {ρ : List DV} (h16 : 16 < ρ.length) (h3 : mVar 3 ρ = some (tv U)) (h1 : mVar 1 ρ = some (tv G)) :
    mComp 16 [1] (mVar 3) (mCmp .NotIn (mVar 16) (mVar 1)) (mVar 16) ρ = some (tv (U.filter fun k => !decide (k ∈ G))) := by
  refine mComp_nat (a := tv U) (g := nat) h3 rfl h16 (fun k _ => ?_) (fun k _ _ => ⟨inner_self h16, rfl⟩)
  refine mcmp_eq (a := nat k) (b := tv G) (inner_self h16) (inner_vis (by decide) (by decide) h1) ?_
  show (inD (k : Int) (G.map nat)).map (!·) = _
  rw [inD_nat]; rfl
theorem sum_le12 : ∀ (hs : List Nat), (∀ h ∈ hs, h < 12) → hs.sum ≤ hs.length * 11
  | [], _ => by simp
  | a :: r, h => by
    have h1 := h a (.head _)
    have h2 := sum_le12 r fun x hx => h x (.tail _ hx)
    rw [List.sum_cons, List.length_cons, Nat.succ_mul]; lia
theorem holds_of {S G : List Nat} (hS : S ∈ sets) (hG : G ∈ sets) (hl : S.length = G.length) {p : Nat} (h1 : 1 ≤ p) (h4 : p ≤ 4) : gDrop G_holds [tv S, tv G, nat p] none = some (.bool true, none) := by
  obtain ⟨s1, s2, s3, s4⟩ := good_of hS
  obtain ⟨g1, g2, g3, g4⟩ := good_of hG
  obtain ⟨u1, u2, u3⟩ := up_facts (p := p) s1 s2
  generalize hU : upOf p S = U at u1 u2 u3
  generalize hgS : gapsF 0 S = gS
  generalize hGg : gapsF 0 G = Gg
  have memS : memG gS = inS S := by
    funext k
    rw [← hgS, gaps_mem s1 (fun _ _ => Nat.zero_le _), Nat.zero_add]
  have memGg : memG Gg = inS G := by
    funext k
    rw [← hGg, gaps_mem g1 (fun _ _ => Nat.zero_le _), Nat.zero_add]
  have lenS : gS.length = S.length := by rw [← hgS, gaps_len]
  have widS : wid gS ≤ 8 := by
    have := gaps_wid (a := 0) (n := 8) s1 (fun k hk => ⟨Nat.zero_le _, s2 k hk⟩) (by lia)
    rw [hgS] at this; lia
  have gok : GOk gS := ⟨fun e => by rw [e] at lenS; simp at lenS; lia, by lia, by lia⟩
  generalize hres : waysG (inS G) p gS [] = res
  have facts := ways_facts (q := inS G) p gS [] h4 gok
  have upw := ways_up (q := inS G) p gS [] h4 gok
  have lenw := ways_len (inS G) p gS [] h4
  rw [hres] at facts upw lenw
  have len5 : res.length ≤ 100000 := Nat.le_trans lenw (Nat.le_trans (Nat.pow_le_pow_right (by decide) h4) (by decide))
  generalize hns : (res.filter fun x => decide (x.1 = Gg)).map (fun x => valF 0 x.2) = ns
  generalize hst : (U.filter fun k => !decide (k ∈ G)).length = st
  have hfar : dc (lettersL U) (lettersL G) = (G.length - U.length) + 2 * st := by
    rw [← hst]
    exact far_is (up_nodup u1) (fun k hk => by have := u3 k hk; lia) (up_nodup g1) g2 (by lia)
  generalize hfr : dc (lettersL U) (lettersL G) = fr at hfar
  generalize hdn : S.length - U.length = dn
  have cS : cnt (inS S) (p + 8) = S.length := cnt_set (up_nodup s1) fun k hk => by have := s2 k hk; lia
  have cG : cnt (inS G) 8 = G.length := cnt_set (up_nodup g1) g2
  have cw := count_ways (q := inS G) (G := Gg) memGg (fun k hk => g2 k (by unfold inS at hk; simpa using hk)) p gS [] h4 gok (fun k hk => by
    rw [memS] at hk
    have := s2 k (by unfold inS at hk; simpa using hk)
    lia) (by rw [memS, cS, cG, hl])
  rw [memS, hres] at cw
  have okst : okU (inS G) (inS S) p ↔ fr = dn := by
    have e : fr = dn ↔ st = 0 := by lia
    rw [e, ← hst, List.length_eq_zero_iff, List.filter_eq_nil_iff]
    constructor
    · intro ok k hk
      rw [← hU] at hk
      unfold upOf at hk
      obtain ⟨x, hx, rfl⟩ := List.mem_map.mp hk
      obtain ⟨hx1, hx2⟩ := List.mem_filter.mp hx
      have hx2 : p ≤ x := by simpa using hx2
      have := ok (x - p) (by have := s2 x hx1; lia) (by unfold inS; rw [show x - p + p = x by lia]; simpa using hx1)
      unfold inS at this
      simpa using this
    · intro h i hi hr
      unfold inS at hr ⊢
      have hr : i + p ∈ S := by simpa using hr
      have := h i (by
        rw [← hU]
        unfold upOf
        exact List.mem_map.mpr ⟨i + p, List.mem_filter.mpr ⟨hr, by simp⟩, by lia⟩)
      simpa using this
  have hcnt : ns.length = if fr = dn then Pc 0 (inS S) p else 0 := by
    have : ns.length = hits Gg res := by rw [← hns, List.length_map]; rfl
    rw [this]
    by_cases h : fr = dn
    · rw [if_pos h]; exact cw.1 (okst.mpr h)
    · rw [if_neg h]; exact cw.2 fun q => h (okst.mp q)
  have nsl : ns.length ≤ 100000 := by
    rw [← hns, List.length_map]
    exact Nat.le_trans (List.length_filter_le _ _) len5
  have nsup : ns.Pairwise (· < ·) := by
    rw [← hns, List.pairwise_map]
    exact upw.filter _
  generalize htot : ((G.sum : Nat) : Int) + (p : Int) * ((G.length : Nat) : Int) - ((S.sum : Nat) : Int) = tot
  have sumS : sumP 0 gS = S.sum := by rw [← hgS]; exact sum_gaps s1 fun _ _ => Nat.zero_le _
  have sumG' : sumP 0 Gg = G.sum := by rw [← hGg]; exact sum_gaps g1 fun _ _ => Nat.zero_le _
  have hmod : ∀ v ∈ ns, (v : Int).fmod 63 = tot := by
    intro v hv
    rw [← hns] at hv
    obtain ⟨x, hx, rfl⟩ := List.mem_map.mp hv
    obtain ⟨hx1, hx2⟩ := List.mem_filter.mp hx
    have hx2 : x.1 = Gg := by simpa using hx2
    obtain ⟨hs, e1, e2, e3, e4, e5, e6⟩ := facts x hx1
    rw [List.nil_append] at e1
    rw [hx2, sumG', sumS, lenS, hl] at e4
    have hm := val_mod hs 0
    have hle := sum_le12 hs e3
    rw [e2] at hle
    rw [e1, Int.fmod_eq_emod_of_nonneg _ (by decide)]
    have hp : (p : Int) * ((G.length : Nat) : Int) = ((p * G.length : Nat) : Int) := by simp
    rw [← htot, hp]
    generalize p * G.length = z at *
    generalize valF 0 hs = y at *
    lia
  have run : ∃ σ, F_holds ⟨[tv S, tv G, nat p, .undef, .undef, .undef, .undef, .undef, .undef, .undef, .undef, .undef, .undef, .undef, .undef, .undef, .undef, .undef, .undef], none, none⟩ = some (.ret (.bool true), σ) := by
    obtain ⟨w11, w12, w13, w14, w15, eg⟩ := hold_go (S := S) (G := G) (U := U) (p := p) (dn := dn) (st := st) (fr := fr) (Gg := Gg) (tot := tot) (α := some (pieces gS)) res [] .undef .undef .undef .undef .undef (fun x hx => by
      obtain ⟨hs, e1, e2, e3, e4, e5, e6⟩ := facts x hx
      rw [List.nil_append] at e1
      exact ⟨by rw [e5, lenS], by rw [e1, e2]; exact h1, by rw [e1, e2]; exact h4, by rw [e1]; exact e3⟩) (by simpa using len5)
    rw [hns, List.nil_append] at eg
    have te := tail_of (S := S) (G := G) (U := U) (p := p) (dn := dn) (st := st) (fr := fr) (Gg := Gg) (tot := tot) (ns := ns) (v11 := w11) (v12 := w12) (v13 := w13) (v14 := w14) (v15 := w15) (gS := gS) hS h1 h4 hgS.symm (by lia) hcnt hmod nsl nsup
    refine ⟨⟨henvF S G U p dn st fr Gg tot ns w11 w12 w13 w14 w15, none, some (pieces gS)⟩, ?_⟩
    unfold F_holds
    refine st_setp (d := tv U) rfl ?_ ?_
    · rw [← hU]
      exact up_comp rfl (show 16 < 19 by decide) (fun k => inner_self (show 16 < 19 by decide)) (fun k => inner_vis (by decide) (by decide) rfl)
    refine st_setp (d := nat dn) rfl (mbin_eq (a := nat S.length) (b := nat U.length) (mcall_eq (ds := [tv S]) rfl (len_tv S)) (mcall_eq (ds := [tv U]) rfl (len_tv U)) ?_) ?_
    · show some (DV.int ((S.length : Int) - (U.length : Int))) = some (DV.int ((dn : Nat) : Int))
      congr 2; lia
    refine st_setp (d := nat st) rfl (mcall_eq (ds := [tv (U.filter fun k => !decide (k ∈ G))]) (mlc_eq (strays_comp (show 16 < 19 by decide) rfl rfl) rfl) ?_) ?_
    · rw [len_tv, hst]
    refine st_set (d := nat fr) (α' := none) rfl (call_eq (lcons_eq (call_eq (lcons_eq (p_eq rfl) rfl) (letters_of U _)) (lcons_eq (call_eq (lcons_eq (p_eq rfl) rfl) (letters_of G _)) (lcons_eq (p_eq rfl) rfl))) ?_) ?_
    · have := lev_of (lett_of U G) (by rw [letters_len]; lia) none
      rw [hfr] at this
      exact this
    refine st_ifN (pt_eq (mcmp_eq (a := nat fr) (b := nat (dn + 2 * st)) (t := false) rfl (mbin_eq (a := nat dn) (b := nat (2 * st)) rfl (mbin_eq (a := nat 2) (b := nat st) rfl rfl ?_) (aug_dist _ _)) ?_)) ?_
    · show (if ((2 : Nat) : Int).natAbs < 2 ^ 60 then some (DV.int (((2 : Nat) : Int) * (st : Int))) else none) = some (DV.int ((2 * st : Nat) : Int))
      rw [if_pos (by decide)]; congr 2
    · rw [ne_nat, show fr = dn + 2 * st by lia]; simp
    refine st_set (d := .str (rowT Gg)) (α' := none) rfl (call_eq (lcons_eq (p_eq rfl) rfl) (hGg ▸ row_of hG _)) ?_
    refine st_setp (d := .int tot) rfl (mbin_eq (a := .int ((G.sum : Int) + (p : Int) * (G.length : Int))) (b := nat S.sum) (mbin_eq (a := nat G.sum) (b := .int ((p : Int) * (G.length : Int))) (mcall_eq (ds := [tv G]) rfl (sum_tv G)) (mbin_eq (a := nat p) (b := nat G.length) rfl (mcall_eq (ds := [tv G]) rfl (len_tv G)) ?_) rfl) (mcall_eq (ds := [tv S]) rfl (sum_tv S)) ?_) ?_
    · show (if ((p : Nat) : Int).natAbs < 2 ^ 60 then some (DV.int ((p : Int) * (G.length : Int))) else none) = _
      rw [if_pos (by lia)]
    · rw [← htot]; rfl
    refine st_set (d := .air) (α' := some (pieces gS)) rfl (call_eq (lcons_eq (call_eq (lcons_eq (p_eq rfl) rfl) (told_of hS _)) rfl) (hgS ▸ air_of hS)) ?_
    refine st_do (own_eq (ds := []) rfl rfl) ?_
    refine st_do (Eq.trans (for_eq (d := .lst (res.map resD)) (β := some (pieces gS)) (lst_eq (call_eq (ds := [.air, nat p, tv G, tv []]) (β := some (pieces gS)) (lcons_eq (p_eq rfl) (lcons_eq (p_eq rfl) (lcons_eq (call_eq (lcons_eq (p_eq rfl) rfl) (told_of hG _)) (lcons_eq (p_eq rfl) rfl)))) ?_)) rfl) eg) ?_
    · rw [ways_of p 6 gS [] (by lia) h4 gok (by simp; lia), hres]
    exact te
  obtain ⟨σ, e⟩ := run
  unfold gDrop
  dsimp only
  have e2 : G_holds [tv S, tv G, nat p] none = some (.bool true, σ.air) := by
    show (F_holds ⟨[tv S, tv G, nat p, .undef, .undef, .undef, .undef, .undef, .undef, .undef, .undef, .undef, .undef, .undef, .undef, .undef, .undef, .undef, .undef], none, none⟩).bind _ = _
    rw [e]; rfl
  rw [e2]; rfl
theorem law_true (l : List Int) (hl : l.length ≤ 63) : G_law [.lst (l.map .int)] none = some (.bool true, none) := law_of (fun S hS G hG hl p h1 h4 => holds_of hS hG hl h1 h4) l hl
end Mine
end

section
open PySem PySem.Calls PyProof.Rows PySem.W
set_option maxRecDepth 100000
namespace Mine
section
variable {w : World} {mg mb : Str → Option Value} {s₀ s : Shared}
theorem items_ints {R : WRecords} : ∀ {xs : List WData}, WShape.hasItems R xs .int = true → ∃ l : List Int, xs = l.map .int
  | [], _ => ⟨[], rfl⟩
  | d :: r, h => by
    simp only [WShape.hasItems, Bool.and_eq_true] at h
    obtain ⟨i, rfl⟩ := hasW_int h.1
    obtain ⟨l, rfl⟩ := items_ints h.2
    exact ⟨i :: l, rfl⟩
theorem well_ints {P : Params} {h : Heap} {X : Addr → Prop} {aA : Option Addr} {l : List Int} : ∀ {vs : List Value}, WellAll P h vs (l.map .int) → RelL h X aA vs (l.map .int) := by
  induction l with
  | nil =>
    intro vs w
    have w : WellAll P h vs [] := w
    cases w
    exact .nil
  | cons i l ih =>
    intro vs w
    have w : WellAll P h vs (.int i :: l.map .int) := w
    cases w with
    | cons a r =>
      cases a
      exact .cons (.int _ _) (ih r)
theorem well_len {P : Params} {h : Heap} {vs : List Value} : ∀ {ds : List WData}, WellAll P h vs ds → vs.length = ds.length := by
  induction vs with
  | nil => intro ds w; cases w; rfl
  | cons v vs ih => intro ds w; cases w with | cons _ r => exact congrArg (· + 1) (ih r)
theorem well_one {P : Params} {h : Heap} {vals : List Value} {xs : List WData} (w : WellAll P h vals [.list xs]) : ∃ a vs, vals = [.ref a] ∧ h.get? a = some { cls := .type "list", data := .seq vs.toArray } ∧ WellAll P h vs xs := by
  cases w with
  | cons hv hr =>
    cases hr
    cases hv with
    | list ho hx => exact ⟨_, _, rfl, ho, hx⟩
theorem pre_is {args : List WData} (hpre : PySem.Challenge.rw_ty0020_01.row.claim.pre args = true) : ∃ l : List Int, args = [.list (l.map .int)] ∧ l.length ≤ 63 := by
  have hsh := (pre_splitW hpre).1
  have hcond := (pre_splitW hpre).2
  obtain ⟨d, r, rfl, hd, hr⟩ := hasAllW_cons hsh
  have := hasAllW_nil hr
  subst this
  obtain ⟨xs, rfl, hx⟩ := hasW_list hd
  obtain ⟨l, rfl⟩ := items_ints hx
  refine ⟨l, rfl, ?_⟩
  by_cases hl : l.length ≤ 63
  · exact hl
  · exfalso
    have h := condW_of hcond (by wtm_val)
    simp at h
    lia
theorem tab66 (W : W0 w mg mb s) : Tab 66 62 s.heap := by
  obtain ⟨o, vs, h1, h2, h3, h4⟩ := o66 w
  refine ⟨#[], ⟨_, _, _, _, _, _, _, _, _, _, W.kk 66 _ rfl, rfl, rfl, rfl, rfl, rfl, rfl, W.t62, rfl, trivial, (by decide : (66 : Nat) ≠ 62)⟩, ⟨o, vs, W.kk _ _ h1, h2, h3, h4⟩, W.t62⟩
theorem tab73 (W : W0 w mg mb s) : Tab 73 69 s.heap := by
  obtain ⟨o, vs, h1, h2, h3, h4⟩ := o73 w
  refine ⟨#[], ⟨_, _, _, _, _, _, _, _, _, _, W.kk 73 _ rfl, rfl, rfl, rfl, rfl, rfl, rfl, W.t69, rfl, trivial, (by decide : (73 : Nat) ≠ 69)⟩, ⟨o, vs, W.kk _ _ h1, h2, h3, h4⟩, W.t69⟩
theorem gi_start (W : W0 w mg mb s) (hg : s.gens = #[]) : GI (c0 mg mb s) s (fun b => b = 62 ∨ b = 69) none none where
  inv := ⟨⟨W.g, W.b, W.lim, fun _ _ e _ _ => e⟩, OldK.refl _, rfl, AllBare.of_eq hg, tab66 W, tab73 W⟩
  xb := fun a h => by
    rcases h with rfl | rfl
    · exact ⟨_, W.t62⟩
    · exact ⟨_, W.t69⟩
  air := trivial
  mx := fun b h => by
    rcases h with h | h | h
    · exact .inl h
    · exact .inr h
    · cases h
theorem rm_start : RmN callerA (0 + 250) := ⟨rfl, by decide +kernel, by decide +kernel⟩
theorem call_law (W : W0 w mg mb s) (hg : s.gens = #[]) {fa : Addr} (hf : mg "law" = some (.ref fa)) {args : List WData} {vals : List Value} (hpre : PySem.Challenge.rw_ty0020_01.row.claim.pre args = true) (hwl : WellAll w.params s.heap vals args) {cl : Str → Option Addr} {mean : ExcName → Option Value} :
    wpAny (model PR w) callerA (call (.ref fa) vals) (fun v s' => GoodWG PySem.Challenge.rw_ty0020_01.row.claim cl mean args s (.ok (.ret v)) s') (fun e s' => GoodWG PySem.Challenge.rw_ty0020_01.row.claim cl mean args s (.error e) s') s := by
  have h194 := W.gl (x := "law") (v := .ref 194) (by kernel_rfl)
  rw [hf] at h194
  cases h194
  obtain ⟨l, rfl, hl⟩ := pre_is hpre
  obtain ⟨a, vs, rfl, ho, hx⟩ := well_one hwl
  have hlen : vs.length ≤ 63 := by rw [well_len hx, List.length_map]; exact hl
  have nX : ¬ ((fun b => b = 62 ∨ b = 69) a : Prop) := by
    intro h
    have e : s.heap.get? a = some { cls := .none, data := .fields #[] } := by
      rcases h with rfl | rfl
      · exact W.t62
      · exact W.t69
    rw [ho] at e; cases e
  refine ok_law (n := 0) W callerA s (fun b => b = 62 ∨ b = 69) none none [.ref a] [.lst (l.map .int)] (.bool true) none rm_start (gi_start W hg) (.cons (.lst nX ⟨_, ho⟩ (Nat.le_trans hlen (by decide)) (well_ints hx)) .nil) (law_true l hl) _ _ fun v s' aA' X' rv st g' => ?_
  cases rv
  refine ⟨.inl ⟨_, .bool true, [], rfl, fun _ => rfl, .bool true, ?_, fun _ => ⟨List.nodup_nil, fun _ h => by cases h⟩⟩, g'.inv.old, g'.inv.os, g'.inv.gens⟩
  exact postW_of (by wrow_shape) (by wtm_val) (by w_fin)
end
end Mine
end

open PySem PySem.Calls PyProof.Rows PySem.W Mine
theorem PySem.Challenge.cw_ty0020_01_holds : PySem.Challenge.rw_ty0020_01.Holds := by
  w_on
  refine holds_law said0 fun said => ?_
  refine holds_open (q := q0) (loose := l0) (Xt := xt0) (XP := XL q0 []) (Yf := H0.obs) (Ya := H0.val) (YP := H0.says) (N := 2496) (left0 seen_f seen_t) H0.of H0.keeps (fun s e => xl_of s (Bool.and_eq_true_iff.mp e).1) XL.keeps (by rfl) (by rfl) (by rfl) (fun s e => recFacts_of (Bool.and_eq_true_iff.mp e).2) (by rfl) (by first | assumption | decide +kernel) (by decide +kernel) ⟨rfl, rfl, rfl, rfl, rfl, by decide +kernel⟩ ?hw ?hc
  (case hw => w_witness2)
  intro w s₀ s₁ mg mb G Y fa o pm cd doc dV kV ho hd hcd hD hmg hg args vals as hpre hlay hrd hwl hlo
  have KX := kIn_of Y
  have W : W0 w mg mb s₁ := ⟨KX, G.T.g, G.T.b, G.T.nolimit, G.T.builtins, G.T.bmain⟩
  have hf : mg "law" = some (.ref fa) := hmg
  clear hd hcd hD hmg ho Y hrd hlo
  exact call_law W hg hf hpre hwl
