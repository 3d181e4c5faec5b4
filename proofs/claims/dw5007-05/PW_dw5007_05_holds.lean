import PyProof.Rows.All
import Wide.All
import OpenK.AllK
import Wide.FinOn
import Lean
import PySem.Challenge.RW_dw5007_05
open PySem PySem.W PyProof.Rows
set_option Elab.async false
set_option maxRecDepth 100000
namespace Mine
/-- pure values: frozen data, constants, places of the store -/
inductive V where
  | none
  | bool (b : Bool)
  | int (i : Int)
  | str (x : Str)
  | tup (vs : List V)
  | lst (vs : List V)
  | dct (es : List (V × V))
  | rng (a b c : Int)
  | ref (i : Nat)
  | con (v : Value)

/-- what a place of the store holds -/
inductive MO where
  | list (vs : List V)
  | dict (es : List (V × V))
  | iter (src : V) (k : Nat)
  | junk

inductive Role where
  | out
  | froz (o : Obj)
  | prot (o : Obj)
  | cell (i : Nat)
  | own

abbrev Wd := Addr → Role

abbrev lstO (xs : Array Value) (n : Nat) : Obj := { cls := .type "list", data := .seq xs n }
abbrev tupO (xs : Array Value) (n : Nat) : Obj := { cls := .type "tuple", data := .seq xs n }
abbrev dctO (es : Array DictEntry) (n : Nat) : Obj := { cls := .type "dict", data := .dict es n }
abbrev rngO (x y z : Int) (t u v : Tok) : Obj := { cls := .type "range", dict := none, data := .fields #[.int x t, .int y u, .int z v], slots := #[] }
abbrev litO (l i : Value) : Obj := { cls := .type "list_iterator", dict := none, data := .fields #[l, i], slots := #[] }

def keyHash (w : World) : V → Int
  | .int i => hashInt i
  | .str x => hashStr w x
  | _ => 0

mutual
inductive VR (w : World) (W : Wd) : V → Value → Prop
  | none : VR w W .none .none
  | bool (b : Bool) : VR w W (.bool b) (.bool b)
  | int (i : Int) (t : Tok) : VR w W (.int i) (.int i t)
  | str (x : Str) (t : Tok) : VR w W (.str x) (.str x t)
  | tup {a : Addr} {xs : Array Value} {n : Nat} {vs : List V} : W a = .froz (tupO xs n) → VRs w W vs xs.toList → VR w W (.tup vs) (.ref a)
  | lst {a : Addr} {o : Obj} {xs : Array Value} {n : Nat} {vs : List V} : W a = .froz o → o.cls = .type "list" → o.data = .seq xs n → VRs w W vs xs.toList → VR w W (.lst vs) (.ref a)
  | dct {a : Addr} {es : Array DictEntry} {n : Nat} {ds : List (V × V)} : W a = .froz (dctO es n) → 1 < a → DRs w W ds es.toList → VR w W (.dct ds) (.ref a)
  | rng {a : Addr} {x y z : Int} {t u v : Tok} : W a = .froz (rngO x y z t u v) → VR w W (.rng x y z) (.ref a)
  | ref {i : Nat} {a : Addr} : W a = .cell i → VR w W (.ref i) (.ref a)
  | con (v : Value) : VR w W (.con v) v
inductive VRs (w : World) (W : Wd) : List V → List Value → Prop
  | nil : VRs w W [] []
  | cons {v : V} {x : Value} {vs : List V} {xs : List Value} : VR w W v x → VRs w W vs xs → VRs w W (v :: vs) (x :: xs)
inductive DRs (w : World) (W : Wd) : List (V × V) → List DictEntry → Prop
  | nil : DRs w W [] []
  | int {i : Int} {t : Tok} {d : V} {x : Value} {ds : List (V × V)} {es : List DictEntry} : VR w W d x → DRs w W ds es → DRs w W ((.int i, d) :: ds) (⟨hashInt i, .int i t, x⟩ :: es)
  | str {y : Str} {t : Tok} {d : V} {x : Value} {ds : List (V × V)} {es : List DictEntry} : VR w W d x → DRs w W ds es → DRs w W ((.str y, d) :: ds) (⟨hashStr w y, .str y t, x⟩ :: es)
end

/-- W' holds all that W's data stand on -/
def Le (W W' : Wd) : Prop := ∀ a, W a ≠ .out → W' a = W a
/-- the part that data stand on -/
def Leq (W W' : Wd) : Prop := (∀ a o, W a = .froz o → W' a = .froz o) ∧ ∀ a i, W a = .cell i → W' a = .cell i
theorem Le.q {W W' : Wd} (h : Le W W') : Leq W W' := ⟨fun a o e => (h a (by rw [e]; exact fun x => by cases x)).trans e, fun a o e => (h a (by rw [e]; exact fun x => by cases x)).trans e⟩
theorem Le.refl (W : Wd) : Le W W := fun _ _ => rfl
theorem Le.trans {a b c : Wd} (h : Le a b) (k : Le b c) : Le a c := fun x e => (k x (by rw [h x e]; exact e)).trans (h x e)
theorem Leq.refl (W : Wd) : Leq W W := ⟨fun _ _ e => e, fun _ _ e => e⟩
theorem Leq.trans {a b c : Wd} (h : Leq a b) (k : Leq b c) : Leq a c := ⟨fun x o e => k.1 x o (h.1 x o e), fun x o e => k.2 x o (h.2 x o e)⟩

mutual
theorem VR.mono {w : World} {W W' : Wd} (h : Leq W W') : ∀ {v : V} {x : Value}, VR w W v x → VR w W' v x
  | _, _, .none => .none
  | _, _, .bool b => .bool b
  | _, _, .int i t => .int i t
  | _, _, .str i t => .str i t
  | _, _, .tup e r => .tup (h.1 _ _ e) (VRs.mono h r)
  | _, _, .lst e a b r => .lst (h.1 _ _ e) a b (VRs.mono h r)
  | _, _, .dct e lo r => .dct (h.1 _ _ e) lo (DRs.mono h r)
  | _, _, .rng e => .rng (h.1 _ _ e)
  | _, _, .ref e => .ref (h.2 _ _ e)
  | _, _, .con v => .con v
theorem VRs.mono {w : World} {W W' : Wd} (h : Leq W W') : ∀ {v : List V} {x : List Value}, VRs w W v x → VRs w W' v x
  | _, _, .nil => .nil
  | _, _, .cons a b => .cons (VR.mono h a) (VRs.mono h b)
theorem DRs.mono {w : World} {W W' : Wd} (h : Leq W W') : ∀ {v : List (V × V)} {x : List DictEntry}, DRs w W v x → DRs w W' v x
  | _, _, .nil => .nil
  | _, _, .int a b => .int (VR.mono h a) (DRs.mono h b)
  | _, _, .str a b => .str (VR.mono h a) (DRs.mono h b)
end

inductive MR (w : World) (W : Wd) : MO → Obj → Prop
  | list {vs : List V} {xs : Array Value} {n : Nat} : VRs w W vs xs.toList → MR w W (.list vs) (lstO xs n)
  | dict {ds : List (V × V)} {es : Array DictEntry} {n : Nat} : DRs w W ds es.toList → MR w W (.dict ds) (dctO es n)
  | iter {v : V} {x : Value} {k : Nat} {o : Obj} : o.cls = .type "list_iterator" → o.data = .fields #[x, .int k 0] → VR w W v x → MR w W (.iter v k) o
  | junk (o : Obj) : MR w W .junk o
theorem MR.mono {w : World} {W W' : Wd} (h : Leq W W') {m : MO} {o : Obj} (r : MR w W m o) : MR w W' m o := by
  cases r with
  | list r => exact .list (r.mono h)
  | dict r => exact .dict (r.mono h)
  | iter a b r => exact .iter a b (r.mono h)
  | junk o => exact .junk o

def HAt (w : World) (W : Wd) (sto : List MO) (h : Heap) (a : Addr) : Role → Prop
  | .out => True
  | .froz o => h.get? a = some o
  | .prot o => h.get? a = some o
  | .own => ∃ o, h.get? a = some o
  | .cell i => ∃ m o, sto[i]? = some m ∧ h.get? a = some o ∧ MR w W m o

structure Gl where
  prog : Program
  w : World
  s0 : Shared
  mg : Str → Option Value
  mb : Str → Option Value
  g : s0.heap.Ns mainGlobals mg
  b : s0.heap.Ns builtinsNs mb
  lim : s0.heap.NoLimit
  bu : ∀ x : Str, x ≠ "__name__" → mb x = bootBuiltins x

structure SimG (G : Gl) (W : Wd) (sto : List MO) (s : Shared) : Prop where
  sh : ∃ h tk, s = { G.s0 with heap := h, toks := tk }
  base : ∀ a o, G.s0.heap.get? a = some o → W a = .froz o
  at_ : ∀ a, HAt G.w W sto s.heap a (W a)
  inj : ∀ a b i, W a = .cell i → W b = .cell i → a = b
  low : ∀ a i, W a = .cell i → 1 < a

structure Cx where
  G : Gl
  scope : Scope
  own : Bool
  n : Nat

structure EnvOk (c : Cx) (env : Env) : Prop where
  scope : env.scope = c.scope
  kind : env.scope.kind = .function
  globals : env.globals = mainGlobals
  builtins : env.builtins = builtinsNs

def AOk (n : Nat) (A : Around) : Prop := A.handled = none ∧ A.depth + n ≤ 890 ∧ A.units + 20 * n ≤ 9000

def CellRole (own : Bool) (W : Wd) (a : Addr) : Prop := if own then W a = .own else ∃ o, W a = .prot o

structure LR (w : World) (W : Wd) (own : Bool) (env : Env) (loc : List (Str × V)) (h : Heap) : Prop where
  ns : ∃ m, h.Ns env.locals m ∧ ∀ x v, env.kindOf x = some .local → loc.lookup x = some v → ∃ v', m x = some v' ∧ VR w W v v'
  mine : W env.locals = .own
  cells : ∀ x, (env.kindOf x = some .cell ∨ env.kindOf x = some .free) → ∃ a vo, env.cells.lookup x = some a ∧ h.IsCell a vo ∧ CellRole own W a ∧ ∀ v, loc.lookup x = some v → ∃ v', vo = some v' ∧ VR w W v v'
  apart : ∀ x y a, env.cells.lookup x = some a → env.cells.lookup y = some a → x = y
  off : ∀ x a, env.cells.lookup x = some a → a ≠ env.locals
  live : ∀ x a, env.cells.lookup x = some a → (∃ vo, h.IsCell a vo) ∧ CellRole own W a

structure St where
  loc : List (Str × V)
  sto : List MO

def Sim (c : Cx) (W : Wd) (env : Env) (σ : St) (s : Shared) : Prop := SimG c.G W σ.sto s ∧ LR c.G.w W c.own env σ.loc s.heap

/-- from every state that fits σ, every tree of T ends, in a state and with a value that fit what Q says -/
def DoG {α β : Type} (c : Cx) (σ : St) (R : Wd → β → α → Prop) (T : Wd → Env → Sem α → Prop) (Q : β → St → Prop) : Prop :=
  ∀ W env s A m, EnvOk c env → AOk c.n A → Sim c W env σ s → T W env m →
    wpAny (model c.G.prog c.G.w) A m (fun x s' => ∃ b σ' W', Q b σ' ∧ Le W W' ∧ R W' b x ∧ Sim c W' env σ' s') (fun _ _ => False) s

def VRc (c : Cx) : Wd → V → Value → Prop := fun W v x => VR c.G.w W v x
def Ev (c : Cx) (e : Expr) (σ : St) (Q : V → St → Prop) : Prop := DoG c σ (VRc c) (fun _ env m => m = eval e env) Q
def Evs (c : Cx) (es : List Expr) (σ : St) (Q : List V → St → Prop) : Prop := DoG c σ (fun W v x => VRs c.G.w W v x ∧ v.length = es.length) (fun _ env m => ∃ p, m = spliced (backTo p (starEach es env))) Q
def Tst (c : Cx) (e : Expr) (σ : St) (Q : Bool → St → Prop) : Prop := DoG c σ (fun _ b x => b = x) (fun _ env m => m = isTrue e env (eval e env)) Q

inductive Fl where
  | next | brk | cont
  | ret (v : V)
inductive FR (w : World) (W : Wd) : Fl → Flow → Prop
  | next : FR w W .next .next
  | brk : FR w W .brk .brk
  | cont : FR w W .cont .cont
  | ret {v : V} {x : Value} : VR w W v x → FR w W (.ret v) (.ret x)
theorem FR.mono {w : World} {W W' : Wd} (h : Leq W W') {f : Fl} {g : Flow} : FR w W f g → FR w W' f g
  | .next => .next | .brk => .brk | .cont => .cont | .ret v => .ret (v.mono h)

def Ex (c : Cx) (st : Stmt) (σ : St) (Q : Fl → St → Prop) : Prop := DoG c σ (fun W f x => FR c.G.w W f x) (fun _ env m => m = exec st env) Q
def Exs (c : Cx) (sts : List Stmt) (σ : St) (Q : Fl → St → Prop) : Prop := DoG c σ (fun W f x => FR c.G.w W f x) (fun _ env m => m = execs sts env) Q
/-- a value goes to a target -/
def Asg (c : Cx) (t : Expr) (v : V) (σ : St) (Q : Unit → St → Prop) : Prop := DoG c σ (fun _ _ _ => True) (fun W env m => ∃ x, VR c.G.w W v x ∧ m = assign t env x) Q

section
variable {α β : Type} {c : Cx} {σ : St} {R : Wd → β → α → Prop} {T : Wd → Env → Sem α → Prop} {Q Q' : β → St → Prop}
theorem DoG.mono (h : DoG c σ R T Q) (k : ∀ b σ, Q b σ → Q' b σ) : DoG c σ R T Q' := fun W env s A m hE hA hS hT =>
  wpAny_mono (h W env s A m hE hA hS hT) (fun _ _ ⟨b, σ', W', q, r⟩ => ⟨b, σ', W', k b σ' q, r⟩) fun _ _ x => x
end

theorem LR.sub {w : World} {W : Wd} {own : Bool} {env : Env} {l l' : List (Str × V)} {h : Heap} (r : LR w W own env l h) (k : ∀ x v, l'.lookup x = some v → l.lookup x = some v) : LR w W own env l' h :=
  ⟨let ⟨m, a, b⟩ := r.ns; ⟨m, a, fun x v e e' => b x v e (k x v e')⟩, r.mine, fun x e => let ⟨a, vo, p, q, o, t⟩ := r.cells x e; ⟨a, vo, p, q, o, fun v e' => t v (k x v e')⟩, r.apart, r.off, r.live⟩
def Sub (l' l : List (Str × V)) : Prop := ∀ p ∈ l', l.lookup p.1 = some p.2
theorem Sub.nil {l : List (Str × V)} : Sub [] l := fun _ h => nomatch h
theorem Sub.cons {l l' : List (Str × V)} {x : Str} {v : V} (h : l.lookup x = some v) (k : Sub l' l) : Sub ((x, v) :: l') l := fun p hp => by
  rcases List.mem_cons.mp hp with rfl | hp
  · exact h
  · exact k p hp
theorem Sub.look {l l' : List (Str × V)} (h : Sub l' l) {x : Str} {v : V} (e : l'.lookup x = some v) : l.lookup x = some v := h _ (mem_of_lookup e)
theorem Sub.refl_of {l : List (Str × V)} : ∀ x v, l.lookup x = some v → l.lookup x = some v := fun _ _ e => e
theorem Sim.sub {c : Cx} {W : Wd} {env : Env} {l l' : List (Str × V)} {sto : List MO} {s : Shared} (h : Sim c W env ⟨l, sto⟩ s) (k : Sub l' l) : Sim c W env ⟨l', sto⟩ s :=
  ⟨h.1, h.2.sub fun _ _ e => k.look e⟩
theorem DoG.sub {α β : Type} {c : Cx} {l l' : List (Str × V)} {sto : List MO} {R : Wd → β → α → Prop} {T : Wd → Env → Sem α → Prop} {Q : β → St → Prop} (h : DoG c ⟨l', sto⟩ R T Q) (k : Sub l' l) : DoG c ⟨l, sto⟩ R T Q :=
  fun W env s A m hE hA hS hT => h W env s A m hE hA (hS.sub k) hT

theorem AOk.in1 {n : Nat} {A : Around} (h : AOk (n + 1) A) : AOk n A.in1 := ⟨h.1, by have := h.2.1; show A.depth + n ≤ 890; omega, by have := h.2.2; show A.units + 1 + 20 * n ≤ 9000; omega⟩
theorem AOk.mark {n : Nat} {A : Around} (h : AOk n A) : AOk n (A.mark none) := ⟨h.1, h.2.1, h.2.2⟩
theorem AOk.deeper {n : Nat} {A : Around} {env : Env} (h : AOk (n + 1) A) : AOk n (A.deeper env) := ⟨h.1, by have := h.2.1; show A.depth + 1 + n ≤ 890; omega, by have := h.2.2; show A.units + 3 + 20 * n ≤ 9000; omega⟩
theorem AOk.room {n : Nat} {A : Around} (h : AOk n A) : A.depth < recursionLimit := by have := h.2.1; show A.depth < 1000; omega
theorem AOk.units {n : Nat} {A : Around} (h : AOk n A) : A.units < cLine := by have := h.2.2; show A.units < 9900; omega
theorem AOk.less {n k : Nat} {A : Around} (h : AOk n A) (e : k ≤ n) : AOk k A := ⟨h.1, by have := h.2.1; omega, by have := h.2.2; omega⟩
def Wd.put (W : Wd) (a : Addr) (r : Role) : Wd := fun b => if b = a then r else W b
theorem Wd.put_self (W : Wd) (a : Addr) (r : Role) : W.put a r a = r := if_pos rfl
theorem Wd.put_ne (W : Wd) {a b : Addr} (r : Role) (h : b ≠ a) : W.put a r b = W b := if_neg h
theorem Le.put {W : Wd} {a : Addr} {r : Role} (h : W a = .out) : Le W (W.put a r) := fun b e => Wd.put_ne W r (by rintro rfl; exact e h)

theorem SimG.out {G : Gl} {W : Wd} {sto : List MO} {s : Shared} {a : Addr} (S : SimG G W sto s) (h : s.heap.get? a = none) : W a = .out := by
  have k := S.at_ a
  revert k
  cases e : W a with
  | out => intro _; rfl
  | froz o => intro k; simp only [HAt] at k; rw [h] at k; cases k
  | prot o => intro k; simp only [HAt] at k; rw [h] at k; cases k
  | own => intro k; simp only [HAt] at k; obtain ⟨o, k⟩ := k; rw [h] at k; cases k
  | cell i => intro k; simp only [HAt] at k; obtain ⟨m, o, _, k, _⟩ := k; rw [h] at k; cases k
theorem fresh_none (h : Heap) {a : Addr} (e : h.objs.size ≤ a) : h.get? a = none := by
  cases q : h.get? a with
  | none => rfl
  | some o => exact absurd (Heap.lt_size q) (Nat.not_lt.mpr e)

theorem HAt.mono {w : World} {W W' : Wd} {sto : List MO} {h h' : Heap} {a : Addr} {r : Role} (q : Leq W W') (k : ∀ o, h.get? a = some o → h'.get? a = some o) (x : HAt w W sto h a r) : HAt w W' sto h' a r := by
  cases r with
  | out => exact trivial
  | froz o => exact k _ x
  | prot o => exact k _ x
  | own => obtain ⟨o, x⟩ := x; exact ⟨o, k _ x⟩
  | cell i => obtain ⟨m, o, e, x, y⟩ := x; exact ⟨m, o, e, k _ x, y.mono q⟩

theorem SimG.keeps {G : Gl} {W : Wd} {sto : List MO} {s : Shared} {h' : Heap} {tk : Nat} (S : SimG G W sto s) (k : ∀ a o, s.heap.get? a = some o → h'.get? a = some o) : SimG G W sto { s with heap := h', toks := tk } :=
  ⟨let ⟨_, _, e⟩ := S.sh; ⟨h', tk, by rw [e]⟩, S.base, fun a => (S.at_ a).mono (Leq.refl W) (k a), S.inj, S.low⟩
theorem LR.keeps {w : World} {W W' : Wd} {own : Bool} {env : Env} {l : List (Str × V)} {h h' : Heap} (r : LR w W own env l h) (q : Leq W W') (ho : ∀ a, W a = .own → W' a = .own) (hp : ∀ a o, W a = .prot o → W' a = .prot o)
    (k : ∀ a o, (W a = .own ∨ ∃ o', W a = .prot o') → h.get? a = some o → h'.get? a = some o) : LR w W' own env l h' := by
  obtain ⟨⟨m, hm, hl⟩, r2, r3, r4, r5, r6⟩ := r
  refine ⟨⟨m, ?_, fun x v e1 e2 => let ⟨v', p, q'⟩ := hl x v e1 e2; ⟨v', p, q'.mono q⟩⟩, ho _ r2, fun x e => ?_, r4, r5, fun x a e => ?_⟩
  · obtain ⟨o, es, ep, b, d⟩ := hm
    exact ⟨o, es, ep, k _ _ (.inl r2) b, d⟩
  · obtain ⟨a, vo, e1, ⟨o, e2, e2'⟩, e3, e4⟩ := r3 x e
    refine ⟨a, vo, e1, ⟨o, k _ _ ?_ e2, e2'⟩, ?_, fun v e => let ⟨v', p, q'⟩ := e4 v e; ⟨v', p, q'.mono q⟩⟩
    · unfold CellRole at e3
      split at e3
      · exact .inl e3
      · exact .inr e3
    · unfold CellRole at e3 ⊢
      split at e3
      · rename_i hc; rw [if_pos hc]; exact ho _ e3
      · rename_i hc; rw [if_neg hc]; exact let ⟨o, e⟩ := e3; ⟨o, hp _ _ e⟩
  · obtain ⟨⟨vo, o, e2, e2'⟩, e3⟩ := r6 x a e
    refine ⟨⟨vo, o, k _ _ ?_ e2, e2'⟩, ?_⟩
    · unfold CellRole at e3
      split at e3
      · exact .inl e3
      · exact .inr e3
    · unfold CellRole at e3 ⊢
      split at e3
      · rename_i hc; rw [if_pos hc]; exact ho _ e3
      · rename_i hc; rw [if_neg hc]; exact let ⟨o, e⟩ := e3; ⟨o, hp _ _ e⟩
theorem LR.le {w : World} {W W' : Wd} {own : Bool} {env : Env} {l : List (Str × V)} {h h' : Heap} (r : LR w W own env l h) (q : Le W W') (k : ∀ a o, h.get? a = some o → h'.get? a = some o) : LR w W' own env l h' :=
  r.keeps q.q (fun a e => (q a (by rw [e]; exact fun x => by cases x)).trans e) (fun a o e => (q a (by rw [e]; exact fun x => by cases x)).trans e) fun a o _ e => k a o e
theorem Sim.keeps {c : Cx} {W : Wd} {env : Env} {σ : St} {s : Shared} {h' : Heap} {tk : Nat} (S : Sim c W env σ s) (k : ∀ a o, s.heap.get? a = some o → h'.get? a = some o) : Sim c W env σ { s with heap := h', toks := tk } :=
  ⟨S.1.keeps k, S.2.le (Le.refl W) k⟩
theorem Sim.toks {c : Cx} {W : Wd} {env : Env} {σ : St} {s : Shared} {tk : Nat} (S : Sim c W env σ s) : Sim c W env σ { s with toks := tk } := S.keeps (h' := s.heap) fun _ _ e => e

theorem low_put {W : Wd} {a : Addr} {ro : Role} (hro : ∀ i, ro ≠ .cell i) (h : ∀ a i, W a = .cell i → 1 < a) : ∀ x i, W.put a ro x = .cell i → 1 < x := fun x i hx => by
  by_cases h1 : x = a
  · subst h1; rw [Wd.put_self] at hx; exact absurd hx (hro i)
  · rw [Wd.put_ne W _ h1] at hx; exact h x i hx
theorem SimG.froz {G : Gl} {W : Wd} {sto : List MO} {s : Shared} {a : Addr} {o : Obj} (S : SimG G W sto s) (h : W a = .out) (e : s.heap.get? a = some o) : SimG G (W.put a (.froz o)) sto s := by
  have L : Le W (W.put a (.froz o)) := Le.put h
  refine ⟨S.sh, fun b o' k => ?_, fun b => ?_, fun x y i hx hy => ?_, fun x i hx => ?_⟩
  · have := S.base b o' k
    exact L.q.1 b o' this
  · by_cases hb : b = a
    · subst hb; rw [Wd.put_self]; exact e
    · rw [Wd.put_ne W _ hb]; exact (S.at_ b).mono L.q fun _ x => x
  · by_cases h1 : x = a
    · subst h1; rw [Wd.put_self] at hx; cases hx
    · by_cases h2 : y = a
      · subst h2; rw [Wd.put_self] at hy; cases hy
      · rw [Wd.put_ne W _ h1] at hx; rw [Wd.put_ne W _ h2] at hy; exact S.inj x y i hx hy
  · by_cases h1 : x = a
    · subst h1; rw [Wd.put_self] at hx; cases hx
    · rw [Wd.put_ne W _ h1] at hx; exact S.low x i hx
theorem Sim.froz {c : Cx} {W : Wd} {env : Env} {σ : St} {s : Shared} {a : Addr} {o : Obj} (S : Sim c W env σ s) (h : W a = .out) (e : s.heap.get? a = some o) : Sim c (W.put a (.froz o)) env σ s :=
  ⟨S.1.froz h e, S.2.le (Le.put h) fun _ _ e => e⟩
/-- a new frozen object -/
theorem Sim.push {c : Cx} {W : Wd} {env : Env} {σ : St} {s : Shared} {o : Obj} (S : Sim c W env σ s) (hf : o.isFreed = false) :
    Sim c (W.put s.heap.objs.size (.froz o)) env σ { s with heap := s.heap.push o } ∧ Le W (W.put s.heap.objs.size (.froz o)) := by
  have ho : W s.heap.objs.size = .out := S.1.out (fresh_none _ (Nat.le_refl _))
  have S' : Sim c W env σ { s with heap := s.heap.push o } := S.keeps (tk := s.toks) fun a o' e => Heap.get?_push_of_some _ e
  exact ⟨S'.froz ho (Heap.get?_push_size _ hf), Le.put ho⟩
theorem SimG.push {G : Gl} {W : Wd} {sto : List MO} {s : Shared} {o : Obj} (S : SimG G W sto s) (hf : o.isFreed = false) :
    SimG G (W.put s.heap.objs.size (.froz o)) sto { s with heap := s.heap.push o } ∧ Le W (W.put s.heap.objs.size (.froz o)) := by
  have ho : W s.heap.objs.size = .out := S.out (fresh_none _ (Nat.le_refl _))
  have S' : SimG G W sto { s with heap := s.heap.push o } := S.keeps (tk := s.toks) fun a o' e => Heap.get?_push_of_some _ e
  exact ⟨S'.froz ho (Heap.get?_push_size _ hf), Le.put ho⟩

theorem SimG.top {G : Gl} {W : Wd} {sto : List MO} {s : Shared} (S : SimG G W sto s) : 1 < s.heap.objs.size := by
  obtain ⟨o, _, _, e, _⟩ := G.g
  have q := S.at_ mainGlobals
  rw [S.base _ _ e] at q
  have := Heap.lt_size q
  exact Nat.lt_trans (by decide) this
theorem SimG.cell {G : Gl} {W : Wd} {sto : List MO} {s : Shared} {a : Addr} {o : Obj} {m : MO} (S : SimG G W sto s) (hlo : 1 < a) (h : W a = .out) (e : s.heap.get? a = some o) (r : MR G.w W m o) : SimG G (W.put a (.cell sto.length)) (sto ++ [m]) s := by
  have L : Le W (W.put a (.cell sto.length)) := Le.put h
  refine ⟨S.sh, fun b o' k => L.q.1 b o' (S.base b o' k), fun b => ?_, fun x y i hx hy => ?_, fun x i hx => ?_⟩
  · by_cases hb : b = a
    · subst hb; rw [Wd.put_self]; exact ⟨m, o, by simp, e, r.mono L.q⟩
    · rw [Wd.put_ne W _ hb]
      have q := (S.at_ b).mono L.q (fun _ x => x)
      revert q
      cases W b with
      | cell i => exact fun ⟨m', o', e1, e2, e3⟩ => ⟨m', o', by rw [List.getElem?_append_left (List.getElem?_eq_some_iff.mp e1).1]; exact e1, e2, e3⟩
      | _ => exact id
  · have lt : ∀ z i, W z = .cell i → i < sto.length := fun z i e => by
      have q := S.at_ z
      rw [e] at q
      obtain ⟨_, _, e1, _⟩ := q
      exact (List.getElem?_eq_some_iff.mp e1).1
    by_cases h1 : x = a
    · subst h1; rw [Wd.put_self] at hx; cases hx
      by_cases h2 : y = x
      · exact h2.symm
      · rw [Wd.put_ne W _ h2] at hy; exact absurd (lt _ _ hy) (Nat.lt_irrefl _)
    · rw [Wd.put_ne W _ h1] at hx
      by_cases h2 : y = a
      · subst h2; rw [Wd.put_self] at hy; cases hy; exact absurd (lt _ _ hx) (Nat.lt_irrefl _)
      · rw [Wd.put_ne W _ h2] at hy; exact S.inj x y i hx hy
  · by_cases h1 : x = a
    · rw [h1]; exact hlo
    · rw [Wd.put_ne W _ h1] at hx; exact S.low x i hx
theorem Sim.cell {c : Cx} {W : Wd} {env : Env} {loc : List (Str × V)} {sto : List MO} {s : Shared} {a : Addr} {o : Obj} {m : MO} (S : Sim c W env ⟨loc, sto⟩ s) (hlo : 1 < a) (h : W a = .out) (e : s.heap.get? a = some o) (r : MR c.G.w W m o) : Sim c (W.put a (.cell sto.length)) env ⟨loc, sto ++ [m]⟩ s :=
  ⟨S.1.cell hlo h e r, S.2.le (Le.put h) fun _ _ e => e⟩
theorem Sim.newCell {c : Cx} {W : Wd} {env : Env} {loc : List (Str × V)} {sto : List MO} {s : Shared} {o : Obj} {m : MO} (S : Sim c W env ⟨loc, sto⟩ s) (hf : o.isFreed = false) (r : MR c.G.w W m o) :
    Sim c (W.put s.heap.objs.size (.cell sto.length)) env ⟨loc, sto ++ [m]⟩ { s with heap := s.heap.push o } ∧ Le W (W.put s.heap.objs.size (.cell sto.length)) := by
  have ho : W s.heap.objs.size = .out := S.1.out (fresh_none _ (Nat.le_refl _))
  have S' : Sim c W env ⟨loc, sto⟩ { s with heap := s.heap.push o } := S.keeps (tk := s.toks) fun a o' e => Heap.get?_push_of_some _ e
  exact ⟨S'.cell S.1.top ho (Heap.get?_push_size _ hf) r, Le.put ho⟩

theorem SimG.set {G : Gl} {W : Wd} {sto : List MO} {s : Shared} {a : Addr} {i : Nat} {o' : Obj} {m' : MO} {h' : Heap} {tk : Nat} (S : SimG G W sto s) (h : W a = .cell i) (hs : Heap.SameBut a s.heap h') (e : h'.get? a = some o') (r : MR G.w W m' o') :
    SimG G W (sto.set i m') { s with heap := h', toks := tk } := by
  refine ⟨let ⟨_, _, e⟩ := S.sh; ⟨h', tk, by rw [e]⟩, S.base, fun b => ?_, S.inj, S.low⟩
  by_cases hb : b = a
  · subst hb
    have q := S.at_ b
    rw [h] at q ⊢
    obtain ⟨m, o, e1, _, _⟩ := q
    exact ⟨m', o', by rw [List.getElem?_set_self (List.getElem?_eq_some_iff.mp e1).1], e, r⟩
  · have q := (S.at_ b).mono (Leq.refl W) (h' := h') (fun o x => (hs.2 b hb).trans x)
    revert q
    cases e' : W b with
    | cell j =>
      rintro ⟨m, o, e1, e2, e3⟩
      refine ⟨m, o, ?_, e2, e3⟩
      rw [List.getElem?_set_ne]
      · exact e1
      · rintro rfl; exact hb (S.inj _ _ _ e' h)
    | _ => exact id
theorem Sim.set {c : Cx} {W : Wd} {env : Env} {loc : List (Str × V)} {sto : List MO} {s : Shared} {a : Addr} {i : Nat} {o' : Obj} {m' : MO} {h' : Heap} {tk : Nat} (S : Sim c W env ⟨loc, sto⟩ s) (h : W a = .cell i) (hs : Heap.SameBut a s.heap h') (e : h'.get? a = some o') (r : MR c.G.w W m' o') :
    Sim c W env ⟨loc, sto.set i m'⟩ { s with heap := h', toks := tk } :=
  ⟨S.1.set h hs e r, S.2.keeps (Leq.refl W) (fun _ e => e) (fun _ _ e => e) fun b o hb e => (hs.2 b (by rintro rfl; rw [h] at hb; rcases hb with hb | ⟨_, hb⟩ <;> cases hb)).trans e⟩

/-- the frame's own objects change -/
theorem SimG.mine {G : Gl} {W : Wd} {sto : List MO} {s : Shared} {a : Addr} {o' : Obj} {h' : Heap} {tk : Nat} (S : SimG G W sto s) (h : W a = .own) (hs : Heap.SameBut a s.heap h') (e : h'.get? a = some o') : SimG G W sto { s with heap := h', toks := tk } := by
  refine ⟨let ⟨_, _, e⟩ := S.sh; ⟨h', tk, by rw [e]⟩, S.base, fun b => ?_, S.inj, S.low⟩
  by_cases hb : b = a
  · subst hb; rw [h]; exact ⟨o', e⟩
  · exact (S.at_ b).mono (Leq.refl W) fun o x => (hs.2 b hb).trans x

theorem lookup_cons_self {α : Type} (x : Str) (v : α) (l : List (Str × α)) : ((x, v) :: l).lookup x = some v := by simp
theorem lookup_cons_ne {α : Type} {x y : Str} (v : α) (l : List (Str × α)) (h : y ≠ x) : ((x, v) :: l).lookup y = l.lookup y := by
  simp [List.lookup, beq_eq_false_iff_ne.mpr h]

section
variable {c : Cx} {W : Wd} {env : Env} {loc : List (Str × V)} {sto : List MO} {s : Shared} {M : Model} {A : Around} {E : Value → Shared → Prop}

theorem Sim.storeLocal {x : Str} {v : V} {v' : Value} {Q : Unit → Shared → Prop} (S : Sim c W env ⟨loc, sto⟩ s) (hk : env.scope.kind = .function) (hl : env.kindOf x = some .local) (hv : VR c.G.w W v v')
    (h : ∀ s', Sim c W env ⟨(x, v) :: loc, sto⟩ s' → Q () s') : wpAny M A (storeName env x v') Q E s := by
  obtain ⟨⟨m, hm, hl'⟩, r2, r3, r4, r5, r6⟩ := S.2
  refine wpAny_storeName_local hl hm (fun h' hn hs => h _ ⟨?_, ⟨⟨_, hn, fun y u e1 e2 => ?_⟩, r2, fun y e => ?_, r4, r5, fun y a e => ⟨let ⟨vo, e2⟩ := (r6 y a e).1; ⟨vo, e2.sameBut hs (r5 y a e)⟩, (r6 y a e).2⟩⟩⟩) (by show (env.scope.kind == .class || (env.scope.kind == .module && _)) = false; rw [hk]; rfl)
  · obtain ⟨o, _, _, e, _⟩ := hn
    exact S.1.mine r2 hs e
  · by_cases hy : y = x
    · subst hy
      rw [lookup_cons_self] at e2
      cases e2
      exact ⟨v', if_pos rfl, hv⟩
    · dsimp only at e2
      rw [lookup_cons_ne _ _ hy] at e2
      obtain ⟨u', p, q⟩ := hl' y u e1 e2
      exact ⟨u', (if_neg hy).trans p, q⟩
  · obtain ⟨a, vo, e1, e2, e3, e4⟩ := r3 y e
    refine ⟨a, vo, e1, e2.sameBut hs (r5 y a e1), e3, fun u e5 => ?_⟩
    have hy : y ≠ x := by rintro rfl; rw [hl] at e; rcases e with e | e <;> cases e
    rw [lookup_cons_ne _ _ hy] at e5
    exact e4 u e5

theorem Sim.storeCell {x : Str} {v : V} {v' : Value} {Q : Unit → Shared → Prop} (S : Sim c W env ⟨loc, sto⟩ s) (hk : env.scope.kind = .function) (hl : env.kindOf x = some .cell) (ho : c.own = true) (hv : VR c.G.w W v v')
    (h : ∀ s', Sim c W env ⟨(x, v) :: loc, sto⟩ s' → Q () s') : wpAny M A (storeName env x v') Q E s := by
  obtain ⟨⟨m, hm, hl'⟩, r2, r3, r4, r5, r6⟩ := S.2
  obtain ⟨a, vo, e1, e2, e3, e4⟩ := r3 x (.inl hl)
  have ha : W a = .own := by unfold CellRole at e3; rw [if_pos ho] at e3; exact e3
  have hal : a ≠ env.locals := r5 x a e1
  refine wpAny_storeName_cell hk hl e1 e2 (fun h' hn hs => h { s with heap := h' } ⟨?_, ⟨⟨m, ?_, fun y u f1 f2 => ?_⟩, r2, fun y f => ?_, r4, r5, fun y b f => ?_⟩⟩)
  · obtain ⟨o, e, _⟩ := hn
    exact S.1.mine (tk := s.toks) ha hs e
  · obtain ⟨o, es, ep, b, d⟩ := hm
    exact ⟨o, es, ep, (hs.2 _ (Ne.symm hal)).trans b, d⟩
  · by_cases hy : y = x
    · subst hy; rw [hl] at f1; cases f1
    · dsimp only at f2
      rw [lookup_cons_ne _ _ hy] at f2
      exact hl' y u f1 f2
  · by_cases hy : y = x
    · subst hy
      refine ⟨a, some v', e1, hn, e3, fun u f2 => ?_⟩
      rw [lookup_cons_self] at f2
      cases f2
      exact ⟨v', rfl, hv⟩
    · obtain ⟨b, vb, g1, g2, g3, g4⟩ := r3 y f
      refine ⟨b, vb, g1, g2.sameBut hs (by rintro rfl; exact hy (r4 _ _ _ g1 e1)), g3, fun u f2 => ?_⟩
      rw [lookup_cons_ne _ _ hy] at f2
      exact g4 u f2
  · refine ⟨?_, (r6 y b f).2⟩
    by_cases hb : b = a
    · subst hb; exact ⟨_, hn⟩
    · obtain ⟨vo, e2⟩ := (r6 y b f).1
      exact ⟨vo, e2.sameBut hs hb⟩

theorem Sim.storeName {x : Str} {v : V} {v' : Value} {Q : Unit → Shared → Prop} (S : Sim c W env ⟨loc, sto⟩ s) (hE : EnvOk c env) (hl : c.scope.names.lookup x = some .local ∨ (c.scope.names.lookup x = some .cell ∧ c.own = true)) (hv : VR c.G.w W v v')
    (h : ∀ s', Sim c W env ⟨(x, v) :: loc, sto⟩ s' → Q () s') : wpAny M A (storeName env x v') Q E s := by
  have hk : env.kindOf x = c.scope.names.lookup x := by unfold Env.kindOf; rw [hE.scope]
  rcases hl with hl | ⟨hl, ho⟩
  · exact S.storeLocal hE.kind (hk.trans hl) hv h
  · exact S.storeCell hE.kind (hk.trans hl) ho hv h

theorem Sim.loadName {x : Str} {v : V} {Q : Value → Shared → Prop} (S : Sim c W env ⟨loc, sto⟩ s) (hE : EnvOk c env) (hx : loc.lookup x = some v) (hl : c.scope.names.lookup x = some .local ∨ c.scope.names.lookup x = some .cell ∨ c.scope.names.lookup x = some .free)
    (h : ∀ v', VR c.G.w W v v' → Q v' s) (hn : (x == ("__classdict__" : Str)) = false) : wpAny M A (loadName env x) Q E s := by
  have hk : env.kindOf x = c.scope.names.lookup x := by unfold Env.kindOf; rw [hE.scope]
  obtain ⟨⟨m, hm, hl'⟩, r2, r3, r4, r5, r6⟩ := S.2
  rcases hl with hl | hl | hl
  · obtain ⟨v', e, r⟩ := hl' x v (hk.trans hl) hx
    exact wpAny_loadName_local hE.kind (hk.trans hl) hm e (h v' r)
  · obtain ⟨a, vo, e1, e2, e3, e4⟩ := r3 x (.inl (hk.trans hl))
    obtain ⟨v', rfl, r⟩ := e4 v hx
    exact wpAny_loadName_cell hE.kind (hk.trans hl) e1 e2 (h v' r)
  · obtain ⟨a, vo, e1, e2, e3, e4⟩ := r3 x (.inr (hk.trans hl))
    obtain ⟨v', rfl, r⟩ := e4 v hx
    exact wpAny_loadName_free hE.kind (hk.trans hl) e1 e2 (h v' r) hn
end
/-- an environment of a scope alone -/
def dEnv (sc : Scope) : Env := { scope := sc, locals := 0, globals := 0, cells := [] }
theorem swapsWith_d (e : Expr) (t : Option Expr) (l : Nat) (env : Env) : swapsWith e t l env = swapsWith e t l (dEnv env.scope) := rfl
theorem swapsSole_d (ts : List Expr) (e : Expr) (l : Nat) (env : Env) : swapsWithSole ts e l env = swapsWithSole ts e l (dEnv env.scope) := by
  unfold swapsWithSole
  split <;> first | exact swapsWith_d _ _ _ _ | rfl
theorem swappedStores_d (ts : List Expr) (e : Expr) (env : Env) : swappedStores ts e env = swappedStores ts e (dEnv env.scope) := rfl
theorem interactive_d (env : Env) : interactive env = interactive (dEnv env.scope) := rfl

/-- a value's operation -/
def BinV (c : Cx) (op : Operator) (a b : V) (σ : St) (Q : V → St → Prop) : Prop := DoG c σ (VRc c) (fun W _ m => ∃ x y, VR c.G.w W a x ∧ VR c.G.w W b y ∧ m = binaryOp op x y) Q
def CmpV (c : Cx) (op : CmpOp) (a b : V) (σ : St) (Q : V → St → Prop) : Prop := DoG c σ (VRc c) (fun W _ m => ∃ x y, VR c.G.w W a x ∧ VR c.G.w W b y ∧ m = compareOp op x y) Q
def UnaV (c : Cx) (op : UnaryOp) (a : V) (σ : St) (Q : V → St → Prop) : Prop := DoG c σ (VRc c) (fun W _ m => ∃ x, VR c.G.w W a x ∧ m = unaryOp op x) Q
def TruV (c : Cx) (a : V) (σ : St) (Q : Bool → St → Prop) : Prop := DoG c σ (fun _ b x => b = x) (fun W _ m => ∃ x, VR c.G.w W a x ∧ m = truthy x) Q
def SubV (c : Cx) (value slice : Expr) (a i : V) (σ : St) (Q : V → St → Prop) : Prop := DoG c σ (VRc c) (fun W _ m => ∃ x y, VR c.G.w W a x ∧ VR c.G.w W i y ∧ m = subscriptTail value slice x y) Q
def CallV (c : Cx) (f : Value) (vs : List V) (σ : St) (Q : V → St → Prop) : Prop := DoG c σ (VRc c) (fun W _ m => ∃ xs, VRs c.G.w W vs xs ∧ m = call f xs) Q
def SetV (c : Cx) (o i v : V) (σ : St) (Q : Unit → St → Prop) : Prop := DoG c σ (fun _ _ _ => True) (fun W _ m => ∃ x y z, VR c.G.w W o x ∧ VR c.G.w W i y ∧ VR c.G.w W v z ∧ m = setItem x y z) Q

section
variable {c : Cx} {σ : St}

/-- one tree after another -/
theorem seq1 {α β : Type} {W : Wd} {env : Env} {s : Shared} {A : Around} {R : Wd → β → α → Prop} {T : Wd → Env → Sem α → Prop} {Q : β → St → Prop} {m : Sem α} {k : α → Shared → Prop} {E : Value → Shared → Prop}
    (h : DoG c σ R T Q) (hE : EnvOk c env) (hA : AOk c.n A) (hS : Sim c W env σ s) (hT : T W env m)
    (hk : ∀ b σ' W' x s', Q b σ' → Le W W' → R W' b x → Sim c W' env σ' s' → k x s') : wpAny (model c.G.prog c.G.w) A m k E s := by
  refine wpAny_mono (h W env s A m hE hA hS hT) (fun x s' ⟨b, σ', W', q, l, r, S⟩ => hk b σ' W' x s' q l r S) fun _ _ x => x.elim

/-- a name of the frame's own -/
def isMine (sc : Scope) (x : Str) : Bool := match sc.names.lookup x with
  | some .local => !(x == ("__debug__" : Str))
  | some .cell => !(x == ("__debug__" : Str))
  | some .free => !(x == ("__debug__" : Str)) && !(x == ("__classdict__" : Str))
  | _ => false
def isGlob (sc : Scope) (x : Str) : Bool := sc.names.lookup x == some .globalImplicit && !(x == ("__debug__" : Str)) && !(x == ("__name__" : Str))
theorem Ev_name {x : Str} {pos : Pos} {v : V} {Q : V → St → Prop} {loc : List (Str × V)} {sto : List MO} (hx : loc.lookup x = some v) (hl : isMine c.scope x = true) (h : Q v ⟨loc, sto⟩) : Ev c (.Name x pos) ⟨loc, sto⟩ Q := by
  intro W env s A m hE hA hS hT
  subst hT
  have hk : env.kindOf x = c.scope.names.lookup x := by unfold Env.kindOf; rw [hE.scope]
  obtain ⟨⟨m, hm, hl'⟩, r2, r3, r4, r5, r6⟩ := hS.2
  unfold isMine at hl
  split at hl
  · rename_i e
    have hn : (x == ("__debug__" : Str)) = false := by simpa using hl
    obtain ⟨v', e', r⟩ := hl' x v (hk.trans e) hx
    exact wpAny_Name (wpAny_loadName_local hE.kind (hk.trans e) hm e' ⟨v, _, W, h, Le.refl W, r, hS⟩) hn
  · rename_i e
    have hn : (x == ("__debug__" : Str)) = false := by simpa using hl
    obtain ⟨a, vo, e1, e2, e3, e4⟩ := r3 x (.inl (hk.trans e))
    obtain ⟨v', rfl, r⟩ := e4 v hx
    exact wpAny_Name (wpAny_loadName_cell hE.kind (hk.trans e) e1 e2 ⟨v, _, W, h, Le.refl W, r, hS⟩) hn
  · rename_i e
    rw [Bool.and_eq_true] at hl
    have hn : (x == ("__debug__" : Str)) = false := by simpa using hl.1
    have hn' : (x == ("__classdict__" : Str)) = false := by simpa using hl.2
    obtain ⟨a, vo, e1, e2, e3, e4⟩ := r3 x (.inr (hk.trans e))
    obtain ⟨v', rfl, r⟩ := e4 v hx
    exact wpAny_Name (wpAny_loadName_free hE.kind (hk.trans e) e1 e2 ⟨v, _, W, h, Le.refl W, r, hS⟩ hn') hn
  · cases hl

theorem Ev_glob {x : Str} {pos : Pos} {v : Value} {Q : V → St → Prop} (hx : c.G.mg x = some v) (hl : isGlob c.scope x = true) (h : Q (.con v) σ) : Ev c (.Name x pos) σ Q := by
  intro W env s A m hE hA hS hT
  subst hT
  simp only [isGlob, Bool.and_eq_true, beq_iff_eq, Bool.not_eq_true'] at hl
  obtain ⟨⟨hl, hn⟩, _⟩ := hl
  have hk : env.kindOf x = c.scope.names.lookup x := by unfold Env.kindOf; rw [hE.scope]
  have hg : s.heap.Ns env.globals c.G.mg := by rw [hE.globals]; exact c.G.g.keeps fun a o e => by have q := hS.1.at_ a; rw [hS.1.base a o e] at q; exact q
  exact Calls.Name_function_global hE.kind (hk.trans hl) (Calls.loadGlobal_global hg hx ⟨.con v, σ, W, h, Le.refl W, .con v, hS⟩) hn

theorem base_keeps {G : Gl} {W : Wd} {sto : List MO} {s : Shared} (S : SimG G W sto s) : ∀ a o, G.s0.heap.get? a = some o → s.heap.get? a = some o := fun a o e => by
  have q := S.at_ a; rw [S.base a o e] at q; exact q

theorem Ev_boot {x : Str} {pos : Pos} {v : Value} {Q : V → St → Prop} (hx : c.G.mg x = none) (hv : bootBuiltins x = some v) (hl : isGlob c.scope x = true) (h : Q (.con v) σ) : Ev c (.Name x pos) σ Q := by
  intro W env s A m hE hA hS hT
  subst hT
  simp only [isGlob, Bool.and_eq_true, beq_iff_eq, Bool.not_eq_true'] at hl
  obtain ⟨⟨hl, hn⟩, hm'⟩ := hl
  have hm : x ≠ "__name__" := beq_eq_false_iff_ne.mp hm'
  have hk : env.kindOf x = c.scope.names.lookup x := by unfold Env.kindOf; rw [hE.scope]
  have hg : s.heap.Ns env.globals c.G.mg := by rw [hE.globals]; exact c.G.g.keeps (base_keeps hS.1)
  have hb : s.heap.Ns env.builtins c.G.mb := by rw [hE.builtins]; exact c.G.b.keeps (base_keeps hS.1)
  exact Calls.Name_function_global hE.kind (hk.trans hl) (Calls.loadGlobal_builtin hg hx hb ((c.G.bu x hm).trans hv) ⟨.con v, σ, W, h, Le.refl W, .con v, hS⟩) hn

theorem Ev_int {i : Int} {k : Nat} {pos : Pos} {Q : V → St → Prop} (h : Q (.int i) σ) : Ev c (.Constant (.int i) k pos) σ Q := by
  intro W env s A m hE hA hS hT
  subst hT
  exact wpAny_Constant_int ⟨.int i, σ, W, h, Le.refl W, .int i _, hS.toks⟩
theorem Ev_none {k : Nat} {pos : Pos} {Q : V → St → Prop} (h : Q .none σ) : Ev c (.Constant .none k pos) σ Q := by
  intro W env s A m hE hA hS hT
  subst hT
  exact wpAny_Constant_none ⟨.none, σ, W, h, Le.refl W, .none, hS⟩
theorem Ev_bool {b : Bool} {k : Nat} {pos : Pos} {Q : V → St → Prop} (h : Q (.bool b) σ) : Ev c (.Constant (.bool b) k pos) σ Q := by
  intro W env s A m hE hA hS hT
  subst hT
  exact wpAny_Constant_bool ⟨.bool b, σ, W, h, Le.refl W, .bool b, hS⟩
theorem Ev_str {x : Str} {k : Nat} {pos : Pos} {Q : V → St → Prop} (h : Q (.str x) σ) : Ev c (.Constant (.str x) k pos) σ Q := by
  intro W env s A m hE hA hS hT
  subst hT
  exact wpAny_Constant_str ⟨.str x, σ, W, h, Le.refl W, .str x _, hS.toks⟩

theorem Ev_bin {l r : Expr} {op : Operator} {pos : Pos} {Q : V → St → Prop} (h : Ev c l σ fun a σ₁ => Ev c r σ₁ fun b σ₂ => BinV c op a b σ₂ Q) : Ev c (.BinOp l op r pos) σ Q := by
  intro W env s A m hE hA hS hT
  subst hT
  refine wpAny_BinOp (seq1 h hE hA hS rfl fun a σ₁ W₁ x s₁ h₁ l₁ r₁ S₁ => seq1 h₁ hE hA S₁ rfl fun b σ₂ W₂ y s₂ h₂ l₂ r₂ S₂ => seq1 h₂ hE hA S₂ ⟨x, y, r₁.mono l₂.q, r₂, rfl⟩ fun v σ₃ W₃ z s₃ q l₃ r₃ S₃ => ?_)
  exact ⟨v, σ₃, W₃, q, (l₁.trans l₂).trans l₃, r₃, S₃⟩
theorem Ev_cmp {l r : Expr} {op : CmpOp} {pos : Pos} {Q : V → St → Prop} (hm : behindInMarks op r = false) (h : Ev c l σ fun a σ₁ => Ev c r σ₁ fun b σ₂ => CmpV c op a b σ₂ Q) : Ev c (.Compare l [op] [r] pos) σ Q := by
  intro W env s A m hE hA hS hT
  subst hT
  refine wpAny_Compare1 (seq1 h hE hA hS rfl fun a σ₁ W₁ x s₁ h₁ l₁ r₁ S₁ => seq1 h₁ hE hA S₁ rfl fun b σ₂ W₂ y s₂ h₂ l₂ r₂ S₂ => seq1 h₂ hE hA S₂ ⟨x, y, r₁.mono l₂.q, r₂, rfl⟩ fun v σ₃ W₃ z s₃ q l₃ r₃ S₃ => ?_) hm
  exact ⟨v, σ₃, W₃, q, (l₁.trans l₂).trans l₃, r₃, S₃⟩
theorem Ev_una {e : Expr} {op : UnaryOp} {pos : Pos} {Q : V → St → Prop} (h : Ev c e σ fun a σ₁ => UnaV c op a σ₁ Q) : Ev c (.UnaryOp op e pos) σ Q := by
  intro W env s A m hE hA hS hT
  subst hT
  refine wpAny_UnaryOp (seq1 h hE hA hS rfl fun a σ₁ W₁ x s₁ h₁ l₁ r₁ S₁ => seq1 h₁ hE hA S₁ ⟨x, r₁, rfl⟩ fun v σ₃ W₃ z s₃ q l₃ r₃ S₃ => ?_)
  exact ⟨v, σ₃, W₃, q, l₁.trans l₃, r₃, S₃⟩
theorem Ev_ifexp {t b o : Expr} {pos : Pos} {Q : V → St → Prop} (h : Tst c t σ fun k σ₁ => if k then Ev c b σ₁ Q else Ev c o σ₁ Q) : Ev c (.IfExp t b o pos) σ Q := by
  intro W env s A m hE hA hS hT
  subst hT
  refine wpAny_IfExp (seq1 h hE hA hS rfl fun k σ₁ W₁ x s₁ h₁ l₁ r₁ S₁ => ?_)
  subst r₁
  cases k
  · simp only [Bool.false_eq_true, if_false] at h₁ ⊢
    exact seq1 h₁ hE hA S₁ rfl fun v σ₃ W₃ z s₃ q l₃ r₃ S₃ => ⟨v, σ₃, W₃, q, l₁.trans l₃, r₃, S₃⟩
  · simp only [if_true] at h₁ ⊢
    exact seq1 h₁ hE hA S₁ rfl fun v σ₃ W₃ z s₃ q l₃ r₃ S₃ => ⟨v, σ₃, W₃, q, l₁.trans l₃, r₃, S₃⟩
theorem Ev_sub {value slice : Expr} {pos : Pos} {Q : V → St → Prop} (h : Ev c value σ fun a σ₁ => Ev c slice σ₁ fun i σ₂ => SubV c value slice a i σ₂ Q) : Ev c (.Subscript value slice pos) σ Q := by
  intro W env s A m hE hA hS hT
  subst hT
  refine Subscript_ (seq1 h hE hA hS rfl fun a σ₁ W₁ x s₁ h₁ l₁ r₁ S₁ => seq1 h₁ hE hA S₁ rfl fun b σ₂ W₂ y s₂ h₂ l₂ r₂ S₂ => seq1 h₂ hE hA S₂ ⟨x, y, r₁.mono l₂.q, r₂, rfl⟩ fun v σ₃ W₃ z s₃ q l₃ r₃ S₃ => ?_)
  exact ⟨v, σ₃, W₃, q, (l₁.trans l₂).trans l₃, r₃, S₃⟩

theorem Evs_nil {Q : List V → St → Prop} (h : Q [] σ) : Evs c [] σ Q := by
  intro W env s A m hE hA hS hT
  obtain ⟨p, rfl⟩ := hT
  exact wpAny_pure ⟨[], σ, W, h, Le.refl W, ⟨.nil, rfl⟩, hS⟩
theorem Evs_cons {e : Expr} {es : List Expr} {Q : List V → St → Prop} (hs : isStarred e = false) (h : Ev c e σ fun v σ₁ => Evs c es σ₁ fun vs σ₂ => Q (v :: vs) σ₂) : Evs c (e :: es) σ Q := by
  intro W env s A m hE hA hS hT
  obtain ⟨p, rfl⟩ := hT
  have e1 : starEach (e :: es) env = (false, eval e env) :: starEach es env := by
    cases e <;> first | rfl | cases hs
  rw [e1]
  show wpAny _ _ (spliced ((false, eval e env) :: backTo p (starEach es env))) _ _ s
  refine Calls.spliced_cons (seq1 h hE hA hS rfl fun a σ₁ W₁ x s₁ h₁ l₁ r₁ S₁ => seq1 h₁ hE hA S₁ ⟨p, rfl⟩ fun vs σ₂ W₂ ys s₂ h₂ l₂ r₂ S₂ => ?_)
  exact ⟨a :: vs, σ₂, W₂, h₂, l₁.trans l₂, ⟨.cons (r₁.mono l₂.q) r₂.1, by rw [List.length_cons, List.length_cons, r₂.2]⟩, S₂⟩

theorem VRs.length {w : World} {W : Wd} : ∀ {vs : List V} {xs : List Value}, VRs w W vs xs → xs.length = vs.length
  | _, _, .nil => rfl
  | _, _, .cons _ r => by rw [List.length_cons, List.length_cons, r.length]
theorem VRs.get {w : World} {W : Wd} : ∀ {vs : List V} {xs : List Value}, VRs w W vs xs → ∀ {k : Nat} {v : V}, vs[k]? = some v → ∃ x, xs[k]? = some x ∧ VR w W v x
  | _, _, .nil, _, _, h => by simp at h
  | _, _, .cons a r, 0, _, h => by simp at h; subst h; exact ⟨_, rfl, a⟩
  | _, _, .cons a r, k + 1, _, h => by simpa using r.get (by simpa using h)
theorem VRs.append {w : World} {W : Wd} : ∀ {vs ws : List V} {xs ys : List Value}, VRs w W vs xs → VRs w W ws ys → VRs w W (vs ++ ws) (xs ++ ys)
  | _, _, _, _, .nil, k => k
  | _, _, _, _, .cons a r, k => .cons a (r.append k)
theorem VRs.one {w : World} {W : Wd} {v : V} {x : Value} (h : VR w W v x) : VRs w W [v] [x] := .cons h .nil

/-- a display laid as data -/
theorem Ev_tup {elts : List Expr} {k : Nat} {pos : Pos} {Q : V → St → Prop} (hn : elts.length < 1000) (h : Evs c elts σ fun vs σ₁ => Q (.tup vs) σ₁) : Ev c (.Tuple elts k pos) σ Q := by
  intro W env s A m hE hA hS hT
  subst hT
  refine wpAny_Tuple_spliced (seq1 h hE hA hS ⟨pos, rfl⟩ fun vs σ₁ W₁ xs s₁ h₁ l₁ r₁ S₁ => ⟨?_, ?_⟩)
  · rw [r₁.1.length, r₁.2, sizeLine_eq]; omega
  · obtain ⟨S₂, l₂⟩ := S₁.push (o := tupO xs.toArray 0) rfl
    exact ⟨.tup vs, σ₁, _, h₁, l₁.trans l₂, .tup (Wd.put_self _ _ _) (r₁.1.mono l₂.q), S₂⟩
theorem Ev_lst {elts : List Expr} {pos : Pos} {Q : V → St → Prop} (hn : elts.length < 1000) (h : Evs c elts σ fun vs σ₁ => Q (.lst vs) σ₁) : Ev c (.List elts pos) σ Q := by
  intro W env s A m hE hA hS hT
  subst hT
  refine wpAny_List_spliced (seq1 h hE hA hS ⟨pos, rfl⟩ fun vs σ₁ W₁ xs s₁ h₁ l₁ r₁ S₁ => ⟨?_, ?_⟩)
  · rw [r₁.1.length, r₁.2, sizeLine_eq]; omega
  · obtain ⟨S₂, l₂⟩ := S₁.push (o := lstO xs.toArray 0) rfl
    exact ⟨.lst vs, σ₁, _, h₁, l₁.trans l₂, .lst (Wd.put_self _ _ _) rfl rfl (r₁.1.mono l₂.q), S₂⟩
/-- a list display laid into the store -/
theorem Ev_lstC {elts : List Expr} {pos : Pos} {Q : V → St → Prop} (hn : elts.length < 1000) (h : Evs c elts σ fun vs σ₁ => Q (.ref σ₁.sto.length) ⟨σ₁.loc, σ₁.sto ++ [.list vs]⟩) : Ev c (.List elts pos) σ Q := by
  intro W env s A m hE hA hS hT
  subst hT
  refine wpAny_List_spliced (seq1 h hE hA hS ⟨pos, rfl⟩ fun vs σ₁ W₁ xs s₁ h₁ l₁ r₁ S₁ => ⟨?_, ?_⟩)
  · rw [r₁.1.length, r₁.2, sizeLine_eq]; omega
  · obtain ⟨S₂, l₂⟩ := Sim.newCell (o := lstO xs.toArray 0) (m := .list vs) S₁ rfl (.list r₁.1)
    exact ⟨_, _, _, h₁, l₁.trans l₂, .ref (Wd.put_self _ _ _), S₂⟩

theorem Tst_val {e : Expr} {Q : Bool → St → Prop} (he : ∀ env, isTrue e env (eval e env) = (do let v ← eval e env; standAt e.pos; holding [v] (truthy v))) (h : Ev c e σ fun v σ₁ => TruV c v σ₁ Q) : Tst c e σ Q := by
  intro W env s A m hE hA hS hT
  subst hT
  refine wpAny_isTrue_value (seq1 h hE hA hS rfl fun a σ₁ W₁ x s₁ h₁ l₁ r₁ S₁ => seq1 h₁ hE hA S₁ ⟨x, r₁, rfl⟩ fun v σ₃ W₃ z s₃ q l₃ r₃ S₃ => ?_) (he env)
  exact ⟨v, σ₃, W₃, q, l₁.trans l₃, r₃, S₃⟩
theorem Tst_cmp {l r : Expr} {op : CmpOp} {pos : Pos} {Q : Bool → St → Prop} (hm : behindInMarks op r = false) (h : Ev c l σ fun a σ₁ => Ev c r σ₁ fun b σ₂ => CmpV c op a b σ₂ fun v σ₃ => TruV c v σ₃ Q) : Tst c (.Compare l [op] [r] pos) σ Q := by
  intro W env s A m hE hA hS hT
  subst hT
  refine wpAny_isTrue_Compare1 (seq1 h hE hA hS rfl fun a σ₁ W₁ x s₁ h₁ l₁ r₁ S₁ => seq1 h₁ hE hA S₁ rfl fun b σ₂ W₂ y s₂ h₂ l₂ r₂ S₂ => seq1 h₂ hE hA S₂ ⟨x, y, r₁.mono l₂.q, r₂, rfl⟩ fun v σ₃ W₃ z s₃ h₃ l₃ r₃ S₃ => seq1 h₃ hE hA S₃ ⟨z, r₃, rfl⟩ fun k σ₄ W₄ z' s₄ q l₄ r₄ S₄ => ?_) hm
  exact ⟨k, σ₄, W₄, q, ((l₁.trans l₂).trans l₃).trans l₄, r₄, S₄⟩
theorem Tst_not {e : Expr} {pos : Pos} {Q : Bool → St → Prop} (h : Tst c e σ fun b σ₁ => Q (!b) σ₁) : Tst c (.UnaryOp .Not e pos) σ Q := by
  intro W env s A m hE hA hS hT
  subst hT
  refine wpAny_isTrue_Not (seq1 h hE hA hS rfl fun b σ₁ W₁ x s₁ h₁ l₁ r₁ S₁ => ⟨!b, σ₁, W₁, h₁, l₁, ?_, S₁⟩)
  rw [r₁]
def All (c : Cx) (op : BoolOp) (es : List Expr) (σ : St) (Q : Bool → St → Prop) : Prop := DoG c σ (fun _ b x => b = x) (fun _ env m => m = allTrue op es env) Q
theorem Tst_bool {op : BoolOp} {es : List Expr} {pos : Pos} {Q : Bool → St → Prop} (h : All c op es σ Q) : Tst c (.BoolOp op es pos) σ Q := by
  intro W env s A m hE hA hS hT
  subst hT
  exact wpAny_isTrue_BoolOp (h W env s A _ hE hA hS rfl)
theorem All_nil {op : BoolOp} {Q : Bool → St → Prop} (h : Q (op == .And) σ) : All c op [] σ Q := by
  intro W env s A m hE hA hS hT
  subst hT
  exact wpAny_pure ⟨_, σ, W, h, Le.refl W, rfl, hS⟩
theorem All_or {e : Expr} {es : List Expr} {Q : Bool → St → Prop} (h : Tst c e σ fun b σ₁ => if b then Q true σ₁ else All c .Or es σ₁ Q) : All c .Or (e :: es) σ Q := by
  intro W env s A m hE hA hS hT
  subst hT
  show wpAny _ _ (isTrue e env (eval e env) >>= fun b => _) _ _ s
  refine wpAny_bind (seq1 h hE hA hS rfl fun b σ₁ W₁ x s₁ h₁ l₁ r₁ S₁ => ?_)
  subst r₁
  cases b
  · simp only [Bool.false_eq_true, if_false] at h₁
    exact seq1 h₁ hE hA S₁ rfl fun v σ₃ W₃ z s₃ q l₃ r₃ S₃ => ⟨v, σ₃, W₃, q, l₁.trans l₃, r₃, S₃⟩
  · exact wpAny_pure ⟨true, σ₁, W₁, by simpa using h₁, l₁, rfl, S₁⟩
theorem All_and {e : Expr} {es : List Expr} {Q : Bool → St → Prop} (h : Tst c e σ fun b σ₁ => if b then All c .And es σ₁ Q else Q false σ₁) : All c .And (e :: es) σ Q := by
  intro W env s A m hE hA hS hT
  subst hT
  show wpAny _ _ (isTrue e env (eval e env) >>= fun b => _) _ _ s
  refine wpAny_bind (seq1 h hE hA hS rfl fun b σ₁ W₁ x s₁ h₁ l₁ r₁ S₁ => ?_)
  subst r₁
  cases b
  · exact wpAny_pure ⟨false, σ₁, W₁, by simpa using h₁, l₁, rfl, S₁⟩
  · simp only [if_true] at h₁
    exact seq1 h₁ hE hA S₁ rfl fun v σ₃ W₃ z s₃ q l₃ r₃ S₃ => ⟨v, σ₃, W₃, q, l₁.trans l₃, r₃, S₃⟩

theorem TruV_bool {b : Bool} {Q : Bool → St → Prop} (h : Q b σ) : TruV c (.bool b) σ Q := by
  intro W env s A m hE hA hS hT
  obtain ⟨x, r, rfl⟩ := hT
  cases r
  exact wpAny_truthy_bool ⟨b, σ, W, h, Le.refl W, rfl, hS⟩

/-- and, or as a value -/
def BopV (c : Cx) (pos : Pos) (op : BoolOp) (es : List Expr) (σ : St) (Q : V → St → Prop) : Prop := DoG c σ (VRc c) (fun _ env m => m = boolOp pos op (evalEach es env)) Q
theorem Ev_bool_op {op : BoolOp} {es : List Expr} {pos : Pos} {Q : V → St → Prop} (h : BopV c pos op es σ Q) : Ev c (.BoolOp op es pos) σ Q := by
  intro W env s A m hE hA hS hT
  subst hT
  exact h W env s A _ hE hA hS rfl
theorem Bop_one {op : BoolOp} {e : Expr} {pos : Pos} {Q : V → St → Prop} (h : Ev c e σ Q) : BopV c pos op [e] σ Q := by
  intro W env s A m hE hA hS hT
  subst hT
  exact h W env s A _ hE hA hS rfl
theorem Bop_or {e f : Expr} {es : List Expr} {pos : Pos} {Q : V → St → Prop} (h : Ev c e σ fun v σ₁ => TruV c v σ₁ fun b σ₂ => if b then Q v σ₂ else BopV c pos .Or (f :: es) σ₂ Q) : BopV c pos .Or (e :: f :: es) σ Q := by
  intro W env s A m hE hA hS hT
  subst hT
  show wpAny _ _ (eval e env >>= fun v => (do standAt pos; let t ← holding [v] (truthy v); _)) _ _ s
  refine wpAny_bind (seq1 h hE hA hS rfl fun v σ₁ W₁ x s₁ h₁ l₁ r₁ S₁ => wpAny_bind (wpAny_standAt (wpAny_bind (wpAny_holding (seq1 h₁ hE hA S₁ ⟨x, r₁, rfl⟩ fun b σ₂ W₂ y s₂ h₂ l₂ r₂ S₂ => ?_)))))
  subst r₂
  cases b
  · simp only [Bool.false_eq_true, if_false] at h₂
    exact seq1 h₂ hE hA S₂ rfl fun v σ₃ W₃ z s₃ q l₃ r₃ S₃ => ⟨v, σ₃, W₃, q, (l₁.trans l₂).trans l₃, r₃, S₃⟩
  · exact wpAny_pure ⟨v, σ₂, W₂, by simpa using h₂, l₁.trans l₂, r₁.mono l₂.q, S₂⟩
theorem Bop_and {e f : Expr} {es : List Expr} {pos : Pos} {Q : V → St → Prop} (h : Ev c e σ fun v σ₁ => TruV c v σ₁ fun b σ₂ => if b then BopV c pos .And (f :: es) σ₂ Q else Q v σ₂) : BopV c pos .And (e :: f :: es) σ Q := by
  intro W env s A m hE hA hS hT
  subst hT
  show wpAny _ _ (eval e env >>= fun v => (do standAt pos; let t ← holding [v] (truthy v); _)) _ _ s
  refine wpAny_bind (seq1 h hE hA hS rfl fun v σ₁ W₁ x s₁ h₁ l₁ r₁ S₁ => wpAny_bind (wpAny_standAt (wpAny_bind (wpAny_holding (seq1 h₁ hE hA S₁ ⟨x, r₁, rfl⟩ fun b σ₂ W₂ y s₂ h₂ l₂ r₂ S₂ => ?_)))))
  subst r₂
  cases b
  · exact wpAny_pure ⟨v, σ₂, W₂, by simpa using h₂, l₁.trans l₂, r₁.mono l₂.q, S₂⟩
  · simp only [if_true] at h₂
    exact seq1 h₂ hE hA S₂ rfl fun v σ₃ W₃ z s₃ q l₃ r₃ S₃ => ⟨v, σ₃, W₃, q, (l₁.trans l₂).trans l₃, r₃, S₃⟩

/-! statements -/
theorem Exs_nil {Q : Fl → St → Prop} (h : Q .next σ) : Exs c [] σ Q := by
  intro W env s A m hE hA hS hT
  subst hT
  exact wpAny_execs_nil ⟨.next, σ, W, h, Le.refl W, .next, hS⟩
/-- what stands behind a statement -/
def Then (c : Cx) (rest : List Stmt) (Q : Fl → St → Prop) : Fl → St → Prop
  | .next, σ => Exs c rest σ Q
  | f, σ => Q f σ
theorem Exs_cons {st : Stmt} {rest : List Stmt} {Q : Fl → St → Prop} (h : Ex c st σ (Then c rest Q)) : Exs c (st :: rest) σ Q := by
  intro W env s A m hE hA hS hT
  subst hT
  refine wpAny_execs_cons (seq1 h hE hA hS rfl fun f σ₁ W₁ x s₁ h₁ l₁ r₁ S₁ => ?_)
  cases r₁ with
  | next => exact seq1 (T := fun _ env m => m = execs rest env) h₁ hE hA S₁ rfl fun v σ₃ W₃ z s₃ q l₃ r₃ S₃ => ⟨v, σ₃, W₃, q, l₁.trans l₃, r₃, S₃⟩
  | brk => exact ⟨.brk, σ₁, W₁, h₁, l₁, .brk, S₁⟩
  | cont => exact ⟨.cont, σ₁, W₁, h₁, l₁, .cont, S₁⟩
  | ret r => exact ⟨.ret _, σ₁, W₁, h₁, l₁, .ret r, S₁⟩
theorem Ex_if {t : Expr} {b o : List Stmt} {pos : Pos} {Q : Fl → St → Prop} (h : Tst c t σ fun k σ₁ => if k then Exs c b σ₁ Q else Exs c o σ₁ Q) : Ex c (.If t b o pos) σ Q := by
  intro W env s A m hE hA hS hT
  subst hT
  refine wpAny_If (seq1 h hE hA hS rfl fun k σ₁ W₁ x s₁ h₁ l₁ r₁ S₁ => ?_)
  subst r₁
  cases k
  · simp only [Bool.false_eq_true, if_false] at h₁ ⊢
    exact seq1 h₁ hE hA S₁ rfl fun v σ₃ W₃ z s₃ q l₃ r₃ S₃ => ⟨v, σ₃, W₃, q, l₁.trans l₃, r₃, S₃⟩
  · simp only [if_true] at h₁ ⊢
    exact seq1 h₁ hE hA S₁ rfl fun v σ₃ W₃ z s₃ q l₃ r₃ S₃ => ⟨v, σ₃, W₃, q, l₁.trans l₃, r₃, S₃⟩
theorem Ex_ret {e : Expr} {pos : Pos} {Q : Fl → St → Prop} (h : Ev c e σ fun v σ₁ => Q (.ret v) σ₁) : Ex c (.Return (some e) pos) σ Q := by
  intro W env s A m hE hA hS hT
  subst hT
  exact wpAny_Return_some (seq1 h hE hA hS rfl fun v σ₁ W₁ x s₁ h₁ l₁ r₁ S₁ => ⟨.ret v, σ₁, W₁, h₁, l₁, .ret r₁, S₁⟩)
theorem Ex_expr {e : Expr} {pos : Pos} {Q : Fl → St → Prop} (hi : interactive (dEnv c.scope) = false) (hs : swapsWith e none pos.line (dEnv c.scope) = pure false) (h : Ev c e σ fun _ σ₁ => Q .next σ₁) : Ex c (.Expr e pos) σ Q := by
  intro W env s A m hE hA hS hT
  subst hT
  exact wpAny_Expr_any (seq1 h hE hA hS rfl fun v σ₁ W₁ x s₁ h₁ l₁ r₁ S₁ => ⟨.next, σ₁, W₁, h₁, l₁, .next, S₁⟩) (by rw [interactive_d, hE.scope]; exact hi) (by rw [swapsWith_d, hE.scope]; exact hs)
/-- a plain name's store -/
def Ok (c : Cx) (x : Str) : Prop := c.scope.names.lookup x = some .local ∨ (c.scope.names.lookup x = some .cell ∧ c.own = true)
def isOk (sc : Scope) (own : Bool) (x : Str) : Bool := match sc.names.lookup x with
  | some .local => true
  | some .cell => own
  | _ => false
theorem Ok.of {x : Str} (h : isOk c.scope c.own x = true) : Ok c x := by
  unfold isOk at h
  split at h
  · exact .inl ‹_›
  · exact .inr ⟨‹_›, h⟩
  · cases h
theorem Ex_asg {x : Str} {p pos : Pos} {e : Expr} {Q : Fl → St → Prop} (hs : swapsWith e (some (.Name x p)) pos.line (dEnv c.scope) = pure false) (hx : Ok c x) (h : Ev c e σ fun v σ₁ => Q .next ⟨(x, v) :: σ₁.loc, σ₁.sto⟩) : Ex c (.Assign [.Name x p] e pos) σ Q := by
  intro W env s A m hE hA hS hT
  subst hT
  refine wpAny_Assign_Name (seq1 h hE hA hS rfl fun v σ₁ W₁ y s₁ h₁ l₁ r₁ S₁ => ?_) (by rw [swapsWith_d, hE.scope]; exact hs)
  exact S₁.storeName hE hx r₁ fun s' S' => ⟨.next, _, W₁, h₁, l₁, .next, S'⟩
theorem Asg_name {x : Str} {p : Pos} {v : V} {Q : Unit → St → Prop} (hx : Ok c x) (h : Q () ⟨(x, v) :: σ.loc, σ.sto⟩) : Asg c (.Name x p) v σ Q := by
  intro W env s A m hE hA hS hT
  obtain ⟨y, r, rfl⟩ := hT
  exact wpAny_assign_Name (hS.storeName hE hx r fun s' S' => ⟨(), _, W, h, Le.refl W, trivial, S'⟩)
theorem Ex_asgT {elts : List Expr} {k : Nat} {p pos : Pos} {e : Expr} {Q : Fl → St → Prop} (hs : swapsWithSole [.Tuple elts k p] e pos.line (dEnv c.scope) = pure false) (hw : swappedStores [.Tuple elts k p] e (dEnv c.scope) = pure none) (h : Ev c e σ fun v σ₁ => Asg c (.Tuple elts k p) v σ₁ fun _ σ₂ => Q .next σ₂) : Ex c (.Assign [.Tuple elts k p] e pos) σ Q := by
  intro W env s A m hE hA hS hT
  subst hT
  exact Assign_Tuple (seq1 h hE hA hS rfl fun v σ₁ W₁ y s₁ h₁ l₁ r₁ S₁ => seq1 h₁ hE hA S₁ ⟨y, r₁, rfl⟩ fun _ σ₂ W₂ _ s₂ h₂ l₂ _ S₂ => ⟨.next, σ₂, W₂, h₂, l₁.trans l₂, .next, S₂⟩) (by rw [swapsSole_d, hE.scope]; exact hs) (by rw [swappedStores_d, hE.scope]; exact hw)
theorem Ex_asgS {o i e : Expr} {p pos : Pos} {Q : Fl → St → Prop} (hs : swapsWith e (some (.Subscript o i p)) pos.line (dEnv c.scope) = pure false) (h : Ev c e σ fun v σ₁ => Ev c o σ₁ fun ov σ₂ => Ev c i σ₂ fun iv σ₃ => SetV c ov iv v σ₃ fun _ σ₄ => Q .next σ₄) : Ex c (.Assign [.Subscript o i p] e pos) σ Q := by
  intro W env s A m hE hA hS hT
  subst hT
  exact wpAny_Assign_Subscript (seq1 h hE hA hS rfl fun v σ₁ W₁ y s₁ h₁ l₁ r₁ S₁ => seq1 h₁ hE hA S₁ rfl fun v₂ σ₂ W₂ y₂ s₂ h₂ l₂ r₂ S₂ => seq1 h₂ hE hA S₂ rfl fun v₃ σ₃ W₃ y₃ s₃ h₃ l₃ r₃ S₃ =>
    seq1 h₃ hE hA S₃ ⟨y₂, y₃, y, r₂.mono l₃.q, r₃, r₁.mono (l₂.trans l₃).q, rfl⟩ fun _ σ₄ W₄ _ s₄ h₄ l₄ _ S₄ => ⟨.next, σ₄, W₄, h₄, ((l₁.trans l₂).trans l₃).trans l₄, .next, S₄⟩) (by rw [swapsWith_d, hE.scope]; exact hs)
theorem Ex_pass {pos : Pos} {Q : Fl → St → Prop} (h : Q .next σ) : Ex c (.Pass pos) σ Q := by
  intro W env s A m hE hA hS hT
  subst hT
  exact wpAny_Pass ⟨.next, σ, W, h, Le.refl W, .next, hS⟩
end
section
variable {c : Cx} {σ : St}

/-! ints -/
theorem int_of {w : World} {W : Wd} {i : Int} {x : Value} (h : VR w W (.int i) x) : ∃ t, x = .int i t := by cases h; exact ⟨_, rfl⟩
theorem noPyl {a b : Int} (h : b.natAbs < 2 ^ 64) : Builtin.divisionGoesByPylong a b = false := by
  refine PyProof.noPylong_of_log2 ?_
  by_cases h0 : b.natAbs = 0
  · rw [h0]; decide +kernel
  · have : b.natAbs.log2 < 64 := (Nat.log2_lt h0).mpr h
    omega
/-- an operation on values that leaves the state but for tokens -/
theorem DoG_bin {op : Operator} {a b r : Int} {Q : V → St → Prop} (H : ∀ (A : Around) (s : Shared) (t u : Tok) (Q' : Value → Shared → Prop), (Q' (.int r s.toks) { s with toks := s.toks + 1 }) → wpAny (model c.G.prog c.G.w) A (binaryOp op (.int a t) (.int b u)) Q' (fun _ _ => False) s)
    (h : Q (.int r) σ) : BinV c op (.int a) (.int b) σ Q := by
  intro W env s A m hE hA hS hT
  obtain ⟨x, y, hx, hy, rfl⟩ := hT
  obtain ⟨t, rfl⟩ := int_of hx
  obtain ⟨u, rfl⟩ := int_of hy
  exact H A s t u _ ⟨_, σ, W, h, Le.refl W, .int _ _, hS.toks⟩
theorem Bin_add {a b : Int} {Q : V → St → Prop} (h : Q (.int (a + b)) σ) : BinV c .Add (.int a) (.int b) σ Q := DoG_bin (fun _ _ _ _ _ q => PyProof.Rows.add_int q) h
theorem Bin_sub {a b : Int} {Q : V → St → Prop} (h : Q (.int (a - b)) σ) : BinV c .Sub (.int a) (.int b) σ Q := DoG_bin (fun _ _ _ _ _ q => PyProof.Rows.sub_int q) h
theorem Bin_mul {a b : Int} {Q : V → St → Prop} (hm : IntMulOk a b) (h : Q (.int (a * b)) σ) : BinV c .Mult (.int a) (.int b) σ Q := DoG_bin (fun _ _ _ _ _ q => PyProof.Rows.mul_int q hm) h
theorem Bin_div {a b : Int} {Q : V → St → Prop} (hb : b ≠ 0) (hs : b.natAbs < 2 ^ 64) (h : Q (.int (a.fdiv b)) σ) : BinV c .FloorDiv (.int a) (.int b) σ Q := DoG_bin (fun _ _ _ _ _ q => PyProof.Rows.floordiv_int hb q (.inl (noPyl hs))) h
theorem Bin_mod {a b : Int} {Q : V → St → Prop} (hb : b ≠ 0) (h : Q (.int (a.fmod b)) σ) : BinV c .Mod (.int a) (.int b) σ Q := DoG_bin (fun _ _ _ _ _ q => PyProof.Rows.mod_int' hb q) h
theorem Bin_or {a b : Int} {Q : V → St → Prop} (h : Q (.int (Builtin.bitOr a b)) σ) : BinV c .BitOr (.int a) (.int b) σ Q := DoG_bin (fun _ _ _ _ _ q => PyProof.Rows.or_int q) h
theorem Bin_pow {a n : Int} {Q : V → St → Prop} (hn : 0 ≤ n) (hz : (Builtin.Int.intBits a : Int) * n ≤ 2 ^ 27) (h : Q (.int (a ^ n.toNat)) σ) : BinV c .Pow (.int a) (.int n) σ Q := DoG_bin (fun _ _ _ _ _ q => PyProof.Rows.pow_int hn hz q) h
theorem Una_neg {a : Int} {Q : V → St → Prop} (h : Q (.int (-a)) σ) : UnaV c .USub (.int a) σ Q := by
  intro W env s A m hE hA hS hT
  obtain ⟨x, hx, rfl⟩ := hT
  obtain ⟨t, rfl⟩ := int_of hx
  exact PyProof.Rows.neg_int ⟨_, σ, W, h, Le.refl W, .int _ _, hS.toks⟩
theorem Tru_int {a : Int} {Q : Bool → St → Prop} (h : Q (a != 0) σ) : TruV c (.int a) σ Q := by
  intro W env s A m hE hA hS hT
  obtain ⟨x, hx, rfl⟩ := hT
  obtain ⟨t, rfl⟩ := int_of hx
  exact PyProof.Rows.truthy_int ⟨_, σ, W, h, Le.refl W, rfl, hS⟩
theorem DoG_cmp {op : CmpOp} {a b : Int} {r : Bool} {Q : V → St → Prop} (H : ∀ (A : Around) (s : Shared) (t u : Tok) (Q' : Value → Shared → Prop), Q' (.bool r) s → wpAny (model c.G.prog c.G.w) A (compareOp op (.int a t) (.int b u)) Q' (fun _ _ => False) s)
    (h : Q (.bool r) σ) : CmpV c op (.int a) (.int b) σ Q := by
  intro W env s A m hE hA hS hT
  obtain ⟨x, y, hx, hy, rfl⟩ := hT
  obtain ⟨t, rfl⟩ := int_of hx
  obtain ⟨u, rfl⟩ := int_of hy
  exact H A s t u _ ⟨_, σ, W, h, Le.refl W, .bool _, hS⟩
theorem Cmp_eqi {a b : Int} {Q : V → St → Prop} (h : Q (.bool (a == b)) σ) : CmpV c .Eq (.int a) (.int b) σ Q := DoG_cmp (fun _ _ _ _ _ q => PyProof.Rows.eq_int q) h
theorem Cmp_nei {a b : Int} {Q : V → St → Prop} (h : Q (.bool (a != b)) σ) : CmpV c .NotEq (.int a) (.int b) σ Q := DoG_cmp (fun _ _ _ _ _ q => PyProof.Rows.ne_int q) h
theorem Cmp_lti {a b : Int} {Q : V → St → Prop} (h : Q (.bool (decide (a < b))) σ) : CmpV c .Lt (.int a) (.int b) σ Q := DoG_cmp (fun _ _ _ _ _ q => PyProof.Rows.lt_int q) h
theorem Cmp_lei {a b : Int} {Q : V → St → Prop} (h : Q (.bool (decide (a ≤ b))) σ) : CmpV c .LtE (.int a) (.int b) σ Q := DoG_cmp (fun _ _ _ _ _ q => PyProof.Rows.le_int q) h
theorem Cmp_gti {a b : Int} {Q : V → St → Prop} (h : Q (.bool (decide (a > b))) σ) : CmpV c .Gt (.int a) (.int b) σ Q := DoG_cmp (fun _ _ _ _ _ q => PyProof.Rows.gt_int q) h
theorem Cmp_gei {a b : Int} {Q : V → St → Prop} (h : Q (.bool (decide (a ≥ b))) σ) : CmpV c .GtE (.int a) (.int b) σ Q := DoG_cmp (fun _ _ _ _ _ q => PyProof.Rows.ge_int q) h

/-! lists -/
/-- a value that is a list, frozen or of the store -/
def ListV (σ : St) (v : V) (vs : List V) : Prop := v = .lst vs ∨ ∃ i, v = .ref i ∧ σ.sto[i]? = some (.list vs)
theorem ListV.get {W : Wd} {env : Env} {s : Shared} {v : V} {vs : List V} {x : Value} (h : ListV σ v vs) (r : VR c.G.w W v x) (S : Sim c W env σ s) : ∃ a xs, x = .ref a ∧ s.heap.IsList a xs ∧ VRs c.G.w W vs xs.toList := by
  rcases h with rfl | ⟨i, rfl, e⟩
  · cases r with
    | @lst a o xs n _ e1 e2 e3 r => exact ⟨a, xs, rfl, ⟨o, by have q := S.1.at_ a; rw [e1] at q; exact q, e2, _, e3⟩, r⟩
  · cases r with
    | @ref _ a e1 =>
      have q := S.1.at_ a
      rw [e1] at q
      obtain ⟨m, o, e2, e3, e4⟩ := q
      rw [e] at e2; cases e2
      cases e4 with
      | list r => exact ⟨_, _, rfl, ⟨_, e3, rfl, _, rfl⟩, r⟩

theorem Bin_cat {a b : V} {vs ws : List V} {Q : V → St → Prop} (ha : ListV σ a vs) (hb : ListV σ b ws) (hz : vs.length + ws.length ≤ sizeLine) (h : Q (.lst (vs ++ ws)) σ) : BinV c .Add a b σ Q := by
  intro W env s A m hE hA hS hT
  obtain ⟨x, y, hx, hy, rfl⟩ := hT
  obtain ⟨l, xs, rfl, hl, rl⟩ := ha.get hx hS
  obtain ⟨b, ys, rfl, hb, rb⟩ := hb.get hy hS
  obtain ⟨⟨cls, dd, data, sl⟩, ho, hc, n, hd⟩ := id hl
  obtain ⟨⟨cls2, dd2, data2, sl2⟩, ho2, hc2, n2, hd2⟩ := id hb
  simp only at hc hd hc2 hd2
  subst hc hd hc2 hd2
  obtain ⟨S₂, l₂⟩ := hS.push (o := lstO (xs ++ ys) 0) rfl
  refine concat_meets ⟨_, ho, rfl⟩ ⟨_, ho2, rfl⟩ noFill_list_add seq_list_add PySem.F.slot_list_add PySem.F.entry_list_add (PySem.F.args_list_add_2 _ _) (list_addW l b xs ys n n2 dd dd2 sl sl2 (by rw [← Array.length_toList, ← Array.length_toList, rl.length, rb.length]; exact hz)) ⟨ho, ho2, ?_⟩
  exact ⟨.lst (vs ++ ws), σ, _, h, l₂, .lst (Wd.put_self _ _ _) rfl rfl (by rw [Array.toList_append]; exact (rl.append rb).mono l₂.q), S₂⟩

/-- a cut -/
def slc {α : Type} (xs : List α) (lo hi st : Option Int) : List α :=
  (sliceRange (sliceBounds lo hi st xs.length).1 (sliceBounds lo hi st xs.length).2.1 (sliceBounds lo hi st xs.length).2.2).filterMap (xs[·]?)
theorem VRs.pick {w : World} {W : Wd} {vs : List V} {xs : List Value} (r : VRs w W vs xs) : ∀ ks : List Nat, VRs w W (ks.filterMap (vs[·]?)) (ks.filterMap (xs[·]?))
  | [] => .nil
  | k :: ks => by
    have e := r.length
    cases hv : vs[k]? with
    | none =>
      have hx : xs[k]? = none := by rw [List.getElem?_eq_none_iff] at hv ⊢; omega
      rw [List.filterMap_cons_none hv, List.filterMap_cons_none hx]; exact r.pick ks
    | some v =>
      obtain ⟨x, hx, rx⟩ := r.get hv
      rw [List.filterMap_cons_some hv, List.filterMap_cons_some hx]; exact .cons rx (r.pick ks)
theorem slc_pick (xs : Array Value) (lo hi st : Option Int) : (slicePick xs lo hi st).toList = slc xs.toList lo hi st := by
  unfold slicePick slc
  simp
theorem VRs.slc {w : World} {W : Wd} {vs : List V} {xs : List Value} (r : VRs w W vs xs) (lo hi st : Option Int) : VRs w W (slc vs lo hi st) (slc xs lo hi st) := by
  unfold Mine.slc
  rw [r.length]
  exact r.pick _

def Part (c : Cx) (e : Option Expr) (σ : St) (Q : Option Int → St → Prop) : Prop := DoG c σ (fun _ k x => IsPart x k) (fun _ env m => m = evalPart e env) Q
theorem Part_none {Q : Option Int → St → Prop} (h : Q none σ) : Part c none σ Q := by
  intro W env s A m hE hA hS hT
  subst hT
  exact wpAny_evalPart_none ⟨none, σ, W, h, Le.refl W, .none, hS⟩
theorem Part_some {e : Expr} {Q : Option Int → St → Prop} (h : Ev c e σ fun v σ₁ => ∃ i, v = .int i ∧ Q (some i) σ₁) : Part c (some e) σ Q := by
  intro W env s A m hE hA hS hT
  subst hT
  refine wpAny_evalPart_some (seq1 h hE hA hS rfl fun v σ₁ W₁ x s₁ h₁ l₁ r₁ S₁ => ?_)
  obtain ⟨i, rfl, q⟩ := h₁
  cases r₁
  exact ⟨some i, σ₁, W₁, q, l₁, .int _ _, S₁⟩

theorem Ev_slice {value : Expr} {lo hi st : Option Expr} {p pos : Pos} {Q : V → St → Prop} (h : Ev c value σ fun a σ₁ => Part c lo σ₁ fun l σ₂ => Part c hi σ₂ fun u σ₃ => Part c st σ₃ fun k σ₄ => k ≠ some 0 ∧ ∃ vs, ListV σ₄ a vs ∧ vs.length < 1000000 ∧ Q (.lst (slc vs l u k)) σ₄) :
    Ev c (.Subscript value (.Slice lo hi st p) pos) σ Q := by
  intro W env s A m hE hA hS hT
  subst hT
  refine Subscript_ (seq1 h hE hA hS rfl fun a σ₁ W₁ x s₁ h₁ l₁ r₁ S₁ => ?_)
  refine wpAny_Slice (seq1 h₁ hE hA S₁ rfl fun l σ₂ W₂ lx s₂ h₂ l₂ r₂ S₂ => seq1 h₂ hE hA S₂ rfl fun u σ₃ W₃ ux s₃ h₃ l₃ r₃ S₃ => seq1 h₃ hE hA S₃ rfl fun k σ₄ W₄ kx s₄ h₄ l₄ r₄ S₄ => ?_)
  obtain ⟨hk, vs, hv, hz, q⟩ := h₄
  obtain ⟨S₅, l₅⟩ := S₄.push (o := { cls := .type "slice", data := .fields #[lx, ux, kx] }) rfl
  obtain ⟨b, xs, rfl, hl, rl⟩ := hv.get (r₁.mono (((l₂.trans l₃).trans l₄).trans l₅).q) S₅
  refine tail_any (T := "list") (ops := match st with | none => [.ref s₄.heap.objs.size, .ref b] | some _ => [.ref b, .ref s₄.heap.objs.size]) ⟨_, hl.choose_spec.1, hl.choose_spec.2.1⟩ slot_list_getitem.lookup ?_ (by cases st <;> rfl)
  obtain ⟨S₆, l₆⟩ := S₅.push (o := lstO (slicePick xs l u k) 0) rfl
  refine wpAny_getItem_list_slice (hsz := by rw [← Array.length_toList, rl.length, sizeLine_eq]; omega) hl (Heap.IsSliceOf.new _ _ _ _) r₂ r₃ r₄ hk ?_
  exact ⟨_, σ₄, _, q, ((((l₁.trans l₂).trans l₃).trans l₄).trans l₅).trans l₆, .lst (Wd.put_self _ _ _) rfl rfl (by rw [slc_pick]; exact (rl.slc l u k).mono l₆.q), S₆⟩

theorem seqIndex_pos {i : Int} {n : Nat} (h : 0 ≤ i) (k : i < n) : seqIndex? i n = some i.toNat := by
  unfold seqIndex?
  simp [show ¬ i < 0 by omega, h, k]
theorem seqIndex_neg {i : Int} {n : Nat} (h : i < 0) (k : -(n : Int) ≤ i) : seqIndex? i n = some (i + n).toNat := by
  unfold seqIndex?
  simp [h, show 0 ≤ i + n by omega]; omega
/-- an item of a list -/
def itemAt (vs : List V) (i : Int) : Option V := if 0 ≤ i then vs[i.toNat]? else if -(vs.length : Int) ≤ i then vs[(i + vs.length).toNat]? else none
def PlainSub (slice : Expr) : Prop := ∀ o i, ∃ ops, subscripted slice false o i = operate ops (getItem o i)
theorem plainSub (slice : Expr) : PlainSub slice := fun o i => by
  unfold subscripted
  split
  · exact ⟨_, rfl⟩
  · rename_i h; cases h
  · exact ⟨_, rfl⟩
theorem Sub_list {value slice : Expr} {a : V} {vs : List V} {i : Int} {v : V} {Q : V → St → Prop} (ha : ListV σ a vs) (hz : vs.length < 2 ^ 60) (hi : itemAt vs i = some v) (h : Q v σ) : SubV c value slice a (.int i) σ Q := by
  intro W env s A m hE hA hS hT
  obtain ⟨x, y, hx, hy, rfl⟩ := hT
  obtain ⟨l, xs, rfl, hl, rl⟩ := ha.get hx hS
  obtain ⟨t, rfl⟩ := int_of hy
  obtain ⟨ops, hs⟩ := plainSub slice (.ref l) (.int i t)
  have hlen := rl.length
  refine tail_any (T := "list") ⟨_, hl.choose_spec.1, hl.choose_spec.2.1⟩ slot_list_getitem.lookup ?_ hs
  unfold itemAt at hi
  split at hi
  · obtain ⟨x, hx, rx⟩ := rl.get hi
    have hb := (List.getElem?_eq_some_iff.mp hi).1
    exact wpAny_getItem_list hl ‹_› (by omega) (by rw [← Array.getElem?_toList]; exact hx) ⟨v, σ, W, h, Le.refl W, rx, hS⟩
  · split at hi
    · obtain ⟨x, hx, rx⟩ := rl.get hi
      have hb := (List.getElem?_eq_some_iff.mp hi).1
      rw [Array.length_toList] at hlen
      refine wpAny_getItem_list_neg hl (by omega) (by rw [hlen]; assumption) (by omega) ?_ ⟨v, σ, W, h, Le.refl W, rx, hS⟩
      rw [← Array.getElem?_toList, hlen]; exact hx
    · cases hi
theorem Sub_tup {value slice : Expr} {vs : List V} {i : Int} {v : V} {Q : V → St → Prop} (hz : vs.length < 2 ^ 60) (hi : itemAt vs i = some v) (h : Q v σ) : SubV c value slice (.tup vs) (.int i) σ Q := by
  intro W env s A m hE hA hS hT
  obtain ⟨x, y, hx, hy, rfl⟩ := hT
  obtain ⟨t, rfl⟩ := int_of hy
  cases hx with
  | @tup a xs n _ e r =>
    obtain ⟨ops, hs⟩ := plainSub slice (.ref a) (.int i t)
    have q := hS.1.at_ a
    rw [e] at q
    have hl : IsTup s.heap a xs.toList.toArray := ⟨_, q, rfl, n, by simp⟩
    have hlen := r.length
    have key : ∃ j, seqIndex? i vs.length = some j ∧ vs[j]? = some v := by
      unfold itemAt at hi
      split at hi
      · have hb := (List.getElem?_eq_some_iff.mp hi).1
        exact ⟨i.toNat, seqIndex_pos ‹_› (by omega), hi⟩
      · split at hi
        · exact ⟨_, seqIndex_neg (by omega) ‹_›, hi⟩
        · cases hi
    have hb : -(vs.length : Int) ≤ i ∧ i < vs.length := by
      unfold itemAt at hi
      split at hi
      · have hb := (List.getElem?_eq_some_iff.mp hi).1; omega
      · split at hi
        · omega
        · cases hi
    obtain ⟨j, hj, hv⟩ := key
    obtain ⟨y, hy, ry⟩ := r.get hv
    rw [Array.length_toList] at hlen
    refine tail_any (T := "tuple") hl.typeIs slot_tuple_getitem.lookup (PyProof.Rows.getItem_tuple hl (by omega) (by omega) (j := j) (x := y) ?_ ?_ ⟨v, σ, W, h, Le.refl W, ry, hS⟩) hs
    · rw [← hj]; simp [hlen]
    · simpa using hy
end
/-- a callee that a call by its name takes -/
def Kp (G : Gl) (f : Value) : Prop := ∀ h : Heap, (∀ a o, G.s0.heap.get? a = some o → h.get? a = some o) → ∃ k, (k = Keeper.frame ∨ k = Keeper.machine ∨ k = Keeper.boundFrame) ∧ Looks (model G.prog G.w) h (keeperOf f) k
theorem Kp_builtin {G : Gl} {id : String} : Kp G (.builtin id) := fun _ _ => ⟨.machine, .inr (.inl rfl), Looks.now⟩
theorem Kp_type {G : Gl} {id : String} : Kp G (.type id) := fun _ _ => ⟨.machine, .inr (.inl rfl), Looks.now⟩
theorem Kp_func {G : Gl} {a : Addr} {o : Obj} {fd : FuncData} (h : G.s0.heap.get? a = some o) (hd : o.data = .func fd) : Kp G (.ref a) := fun h' k => ⟨.frame, .inl rfl, (Looks.ld (part := none) (k _ _ h)).andThen (by rw [hd]; exact .now)⟩

section
variable {c : Cx} {σ : St}

theorem Ev_call {id : Str} {p pos : Pos} {args : List Expr} {Q : V → St → Prop} (hst : args.any isStarred = false) (hne : args ≠ [])
    (h : Ev c (.Name id p) σ fun f σ₁ => ∃ fv, f = .con fv ∧ Kp c.G fv ∧ Evs c args σ₁ fun vs σ₂ => CallV c fv vs σ₂ Q) : Ev c (.Call (.Name id p) args [] pos) σ Q := by
  intro W env s A m hE hA hS hT
  subst hT
  refine wpAny_Call_NameR (seq1 h hE hA hS rfl fun f σ₁ W₁ x s₁ h₁ l₁ r₁ S₁ => ?_)
  obtain ⟨fv, rfl, hk, h₁⟩ := h₁
  cases r₁
  have key : ∀ es : List Expr, es.any isStarred = false → ((backTo pos (starEach es env)).any (·.1)) = false := by
    intro es
    induction es with
    | nil => intro _; rfl
    | cons e es ih =>
      intro he
      rw [List.any_cons, Bool.or_eq_false_iff] at he
      have e1 : starEach (e :: es) env = (false, eval e env) :: starEach es env := by cases e <;> first | rfl | cases he.1
      rw [e1]
      show (false || (backTo pos (starEach es env)).any (·.1)) = false
      rw [ih he.2]; rfl
  refine callWith_of (P := fun h => ∀ a o, c.G.s0.heap.get? a = some o → h.get? a = some o) (by rw [key args hst]; rfl) hk ?_
  obtain ⟨e, es, rfl⟩ := List.exists_cons_of_ne_nil hne
  have he := hst
  rw [List.any_cons, Bool.or_eq_false_iff] at he
  have e1 : starEach (e :: es) env = (false, eval e env) :: starEach es env := by cases e <;> first | rfl | cases he.1
  have h₂ := h₁ W₁ env s₁ A _ hE hA S₁ ⟨pos, rfl⟩
  rw [e1] at h₂ ⊢
  refine Calls.evalArgs_plain (x := eval e env) (rest := backTo pos (starEach es env)) (wpAny_mono h₂ ?_ fun _ _ x => x.elim)
  rintro xs s₂ ⟨vs, σ₂, W₂, h₃, l₂, r₂, S₂⟩
  refine ⟨base_keeps S₂.1, seq1 h₃ hE hA S₂ ⟨xs, r₂.1, rfl⟩ fun v σ₃ W₃ z s₃ q l₃ r₃ S₃ => ⟨v, σ₃, W₃, q, (l₁.trans l₂).trans l₃, r₃, S₃⟩⟩
theorem Ev_call0 {id : Str} {p pos : Pos} {Q : V → St → Prop}
    (h : Ev c (.Name id p) σ fun f σ₁ => ∃ fv, f = .con fv ∧ Kp c.G fv ∧ CallV c fv [] σ₁ Q) : Ev c (.Call (.Name id p) [] [] pos) σ Q := by
  intro W env s A m hE hA hS hT
  subst hT
  refine wpAny_Call_NameR (seq1 h hE hA hS rfl fun f σ₁ W₁ x s₁ h₁ l₁ r₁ S₁ => ?_)
  obtain ⟨fv, rfl, hk, h₁⟩ := h₁
  cases r₁
  refine callWith_of (P := fun h => ∀ a o, c.G.s0.heap.get? a = some o → h.get? a = some o) rfl hk (evalArgs_nil3 ?_)
  refine ⟨base_keeps S₁.1, seq1 h₁ hE hA S₁ ⟨[], .nil, rfl⟩ fun v σ₃ W₃ z s₃ q l₃ r₃ S₃ => ⟨v, σ₃, W₃, q, l₁.trans l₃, r₃, S₃⟩⟩

/-! built-ins -/
theorem one_of {w : World} {W : Wd} {v : V} {xs : List Value} (h : VRs w W [v] xs) : ∃ x, xs = [x] ∧ VR w W v x := by
  cases h with
  | cons a b => cases b; exact ⟨_, rfl, a⟩
theorem two_of {w : World} {W : Wd} {v u : V} {xs : List Value} (h : VRs w W [v, u] xs) : ∃ x y, xs = [x, y] ∧ VR w W v x ∧ VR w W u y := by
  cases h with
  | cons a b => obtain ⟨y, rfl, r⟩ := one_of b; exact ⟨_, _, rfl, a, r⟩
theorem three_of {w : World} {W : Wd} {v u t : V} {xs : List Value} (h : VRs w W [v, u, t] xs) : ∃ x y z, xs = [x, y, z] ∧ VR w W v x ∧ VR w W u y ∧ VR w W t z := by
  cases h with
  | cons a b => obtain ⟨y, z, rfl, r, r'⟩ := two_of b; exact ⟨_, _, _, rfl, a, r, r'⟩

theorem ints_items {w : World} {W : Wd} : ∀ {ns : List Int} {xs : List Value}, VRs w W (ns.map V.int) xs → ∃ ps : List (Int × Tok), xs = ps.map (fun p => Value.int p.1 p.2) ∧ ps.map (·.1) = ns
  | [], _, .nil => ⟨[], rfl, rfl⟩
  | n :: ns, _, .cons a b => by
    obtain ⟨t, rfl⟩ := int_of a
    obtain ⟨ps, rfl, rfl⟩ := ints_items b
    exact ⟨(n, t) :: ps, rfl, rfl⟩
theorem preSum_list (ps : List (Int × Tok)) : preSum (numAt ps.toArray) ps.toArray.size = (ps.map (·.1)).sum := by
  have key : ∀ k, k ≤ ps.length → preSum (numAt ps.toArray) k = ((ps.take k).map (·.1)).sum := by
    intro k
    induction k with
    | zero => intro _; rfl
    | succ k ih =>
      intro hk
      rw [preSum, ih (by omega), List.take_add_one, List.map_append, List.sum_append]
      congr 1
      unfold numAt
      simp [List.getElem?_eq_getElem (show k < ps.length by omega)]
  have := key ps.length (Nat.le_refl _)
  rw [List.take_length] at this
  simpa using this
theorem Call_sum {a : V} {ns : List Int} {Q : V → St → Prop} (ha : ListV σ a (ns.map V.int)) (h : Q (.int ns.sum) σ) : CallV c (.builtin "sum") [a] σ Q := by
  intro W env s A m hE hA hS hT
  obtain ⟨xs, hx, rfl⟩ := hT
  obtain ⟨x, rfl, r⟩ := one_of hx
  obtain ⟨l, xs, rfl, hl, rl⟩ := ha.get r hS
  obtain ⟨ps, e1, rfl⟩ := ints_items rl
  have e2 : xs = intItems ps.toArray := by
    apply Array.toList_inj.mp
    rw [e1]; simp [intItems]
  subst e2
  refine sum_intListG hA.1 hl fun h' tk t' hk => ⟨_, σ, W, h, Le.refl W, ?_, hS.keeps hk⟩
  rw [preSum_list]
  exact .int _ _
theorem Call_len {a : V} {vs : List V} {Q : V → St → Prop} (ha : ListV σ a vs) (hz : vs.length < 2 ^ 60) (h : Q (.int vs.length) σ) : CallV c (.builtin "len") [a] σ Q := by
  intro W env s A m hE hA hS hT
  obtain ⟨xs, hx, rfl⟩ := hT
  obtain ⟨x, rfl, r⟩ := one_of hx
  obtain ⟨l, xs, rfl, hl, rl⟩ := ha.get r hS
  have hlen := rl.length
  rw [Array.length_toList] at hlen
  refine Calls.call_len_list hl (by omega) ?_
  rw [hlen]
  exact ⟨_, σ, W, h, Le.refl W, .int _ _, hS.toks.toks⟩
theorem Call_range1 {n : Int} {Q : V → St → Prop} (h : Q (.rng 0 n 1) σ) : CallV c (.type "range") [.int n] σ Q := by
  intro W env s A m hE hA hS hT
  obtain ⟨xs, hx, rfl⟩ := hT
  obtain ⟨x, rfl, r⟩ := one_of hx
  obtain ⟨t, rfl⟩ := int_of r
  obtain ⟨S₂, l₂⟩ := hS.push (o := rngO 0 n 1 s.toks t (s.toks + 1)) rfl
  exact call_range_1 ⟨_, σ, _, h, l₂, .rng (Wd.put_self _ _ _), S₂.toks⟩
theorem Call_range2 {a b : Int} {Q : V → St → Prop} (h : Q (.rng a b 1) σ) : CallV c (.type "range") [.int a, .int b] σ Q := by
  intro W env s A m hE hA hS hT
  obtain ⟨xs, hx, rfl⟩ := hT
  obtain ⟨x, y, rfl, r, r'⟩ := two_of hx
  obtain ⟨t, rfl⟩ := int_of r
  obtain ⟨u, rfl⟩ := int_of r'
  obtain ⟨S₂, l₂⟩ := hS.push (o := rngO a b 1 t u s.toks) rfl
  exact call_range_2 ⟨_, σ, _, h, l₂, .rng (Wd.put_self _ _ _), S₂.toks⟩
theorem Call_range3 {a b d : Int} {Q : V → St → Prop} (hd : d ≠ 0) (hs : d.natAbs < 2 ^ 64) (h : Q (.rng a b d) σ) : CallV c (.type "range") [.int a, .int b, .int d] σ Q := by
  intro W env s A m hE hA hS hT
  obtain ⟨xs, hx, rfl⟩ := hT
  obtain ⟨x, y, z, rfl, r, r', r''⟩ := three_of hx
  obtain ⟨t, rfl⟩ := int_of r
  obtain ⟨u, rfl⟩ := int_of r'
  obtain ⟨v, rfl⟩ := int_of r''
  obtain ⟨S₂, l₂⟩ := hS.push (o := rngO a b d t u v) rfl
  exact call_range_3 (hp := .inl (noPyl hs)) hd ⟨_, σ, _, h, l₂, .rng (Wd.put_self _ _ _), S₂.toks⟩
/-- list(..) of a list: a frozen copy -/
theorem Call_list {a : V} {vs : List V} {Q : V → St → Prop} (ha : ListV σ a vs) (hz : vs.length < 1000000) (h : Q (.lst vs) σ) : CallV c (.type "list") [a] σ Q := by
  intro W env s A m hE hA hS hT
  obtain ⟨xs, hx, rfl⟩ := hT
  obtain ⟨x, rfl, r⟩ := one_of hx
  obtain ⟨l, xs, rfl, ⟨o, ho, hc, n, hd⟩, rl⟩ := ha.get r hS
  refine call_list_seq l (.inl rfl) ho hc hd (fun h' c' hk hn => ?_) (by rw [← Array.length_toList, rl.length, sizeLine_eq]; omega)
  have S₂ : Sim c W env σ { s with heap := h' } := hS.keeps (tk := s.toks) hk
  have ho : W s.heap.objs.size = .out := hS.1.out (fresh_none _ (Nat.le_refl _))
  exact ⟨_, σ, _, h, Le.put ho, .lst (Wd.put_self _ _ _) rfl rfl (rl.mono (Le.put ho).q), S₂.froz ho hn⟩
/-- list(..) of a list: a place of the store -/
theorem Call_listC {loc : List (Str × V)} {sto : List MO} {a : V} {vs : List V} {Q : V → St → Prop} (ha : ListV ⟨loc, sto⟩ a vs) (hz : vs.length < 1000000) (h : Q (.ref sto.length) ⟨loc, sto ++ [.list vs]⟩) : CallV c (.type "list") [a] ⟨loc, sto⟩ Q := by
  intro W env s A m hE hA hS hT
  obtain ⟨xs, hx, rfl⟩ := hT
  obtain ⟨x, rfl, r⟩ := one_of hx
  obtain ⟨l, xs, rfl, ⟨o, ho, hc, n, hd⟩, rl⟩ := ha.get r hS
  refine call_list_seq l (.inl rfl) ho hc hd (fun h' c' hk hn => ?_) (by rw [← Array.length_toList, rl.length, sizeLine_eq]; omega)
  have S₂ : Sim c W env ⟨loc, sto⟩ { s with heap := h' } := hS.keeps (tk := s.toks) hk
  have ho : W s.heap.objs.size = .out := hS.1.out (fresh_none _ (Nat.le_refl _))
  exact ⟨_, _, _, h, Le.put ho, .ref (Wd.put_self _ _ _), S₂.cell hS.1.top ho hn (.list rl)⟩
theorem Call_min {a b : Int} {Q : V → St → Prop} (h : Q (.int (min a b)) σ) : CallV c (.builtin "min") [.int a, .int b] σ Q := by
  intro W env s A m hE hA hS hT
  obtain ⟨xs, hx, rfl⟩ := hT
  obtain ⟨x, y, rfl, r, r'⟩ := two_of hx
  obtain ⟨t, rfl⟩ := int_of r
  obtain ⟨u, rfl⟩ := int_of r'
  refine min_two_ints hA.1 fun h' tk hk => ⟨_, σ, W, h, Le.refl W, ?_, hS.keeps hk⟩
  by_cases e : b < a
  · rw [if_pos e, Int.min_def, if_neg (by omega)]; exact .int _ _
  · rw [if_neg e, Int.min_def, if_pos (by omega)]; exact .int _ _

/-! a list of the store grows -/
theorem append_meth {env : Env} {A : Around} {s : Shared} {W : Wd} {loc : List (Str × V)} {sto : List MO} {i : Nat} {vs : List V} {v : V} {a : Addr} {x : Value} {Q : Value → Shared → Prop} {E : Value → Shared → Prop}
    (hS : Sim c W env ⟨loc, sto⟩ s) (ha : W a = .cell i) (hv : sto[i]? = some (.list vs)) (hz : vs.length < 1000000) (r : VR c.G.w W v x)
    (h : ∀ s', Sim c W env ⟨loc, sto.set i (.list (vs ++ [v]))⟩ s' → Q .none s') : wpAny (model c.G.prog c.G.w) A (call (.builtin "list.append") [.ref a, x]) Q E s := by
  have q := hS.1.at_ a
  rw [ha] at q
  obtain ⟨m, o, e1, e2, e3⟩ := q
  rw [hv] at e1; cases e1
  cases e3 with
  | @list _ xs n rl =>
    refine wpAny_list_append_plain ⟨n, e2⟩ (fun h' hp hs => h _ ?_) (by rw [← Array.length_toList, rl.length, sizeLine_eq]; omega)
    obtain ⟨n', e⟩ := hp
    exact hS.set (tk := s.toks) ha hs e (.list (by rw [Array.toList_push]; exact rl.append (.one r)))
end
def unowned (n : String) : Bool := !(["enumerate", "zip", "dict_itemiterator", "dict_reverseitemiterator", "odict_iterator", "itertools.zip_longest", "itertools.pairwise"] : List String).contains n

/-- what an iterator walks: frozen items, or a list of the store -/
inductive ISrc where
  | seq (vs : List V)
  | cell (i : Nat)
inductive ItAt (w : World) (W : Wd) (h : Heap) (I : Addr) : ISrc → Nat → Prop
  | lst {a : Addr} {o : Obj} {xs : Array Value} {n : Nat} {vs : List V} {k : Nat} : W a = .froz o → o.cls = .type "list" → o.data = .seq xs n → VRs w W vs xs.toList → h.IsListIter I a k → ItAt w W h I (.seq vs) k
  | tup {a : Addr} {xs : Array Value} {n : Nat} {vs : List V} {k : Nat} : W a = .froz (tupO xs n) → VRs w W vs xs.toList → (∃ o, h.get? I = some o ∧ o.cls = .type "tuple_iterator" ∧ o.data = .fields #[.ref a, .int k 0]) → ItAt w W h I (.seq vs) k
  | rng {a d : Int} {n k : Nat} : k ≤ n → IsRangeIter h I (a + (k : Int) * d) ((n : Int) - k) d → ItAt w W h I (.seq ((List.range n).map fun (k : Nat) => V.int (a + (k : Int) * d))) k
  | cell {a : Addr} {i k : Nat} : W a = .cell i → h.IsListIter I a k → ItAt w W h I (.cell i) k
def Items (sto : List MO) : ISrc → List V → Prop
  | .seq us, vs => us = vs
  | .cell i, vs => sto[i]? = some (.list vs)
/-- an iterator's object -/
def ItOb (o : Obj) : Prop := ∃ n, o.cls = .type n ∧ unowned n = true ∧ ∀ v, o.data ≠ .cell v

theorem let_go {M : Model} {A : Around} {s : Shared} {E : Value → Shared → Prop} {Q : Unit → Shared → Prop} {target : Expr} {I : Addr} {v : Value} {o : Obj} {n : String} (ho : s.heap.get? I = some o) (hc : o.cls = .type n) (hn : unowned n = true) (h : Q () s) :
    wpAny M A (letOwnedTupleGo target (.ref I) v) Q E s := by
  have hn' : (["enumerate", "zip", "dict_itemiterator", "dict_reverseitemiterator", "odict_iterator", "itertools.zip_longest", "itertools.pairwise"] : List String).contains n = false := by
    unfold unowned at hn; exact Bool.not_eq_true' _ |>.mp hn
  unfold letOwnedTupleGo
  split
  · cases v with
    | ref a =>
      refine wpAny_bind (wpAny_load ho ?_)
      simp only [hc]
      split
      · rename_i m vs e1 e2
        cases e1
        rw [hn']
        exact wpAny_pure h
      · exact wpAny_pure h
    | _ => exact wpAny_pure h
  · cases v with
    | ref a =>
      refine wpAny_bind (wpAny_load ho ?_)
      simp only [hc]
      split
      · rename_i m vs e1 e2
        cases e1
        rw [hn']
        exact wpAny_pure h
      · exact wpAny_pure h
    | _ => exact wpAny_pure h
  · exact wpAny_pure h

section
variable {c : Cx}

theorem Leq.turn {W : Wd} {a : Addr} {o o' : Obj} (h : W a = .prot o) : Leq W (W.put a (.prot o')) := by
  refine ⟨fun b x e => ?_, fun b x e => ?_⟩
  · rw [Wd.put_ne]
    · exact e
    · rintro rfl; rw [h] at e; cases e
  · rw [Wd.put_ne]
    · exact e
    · rintro rfl; rw [h] at e; cases e
/-- a guarded object turns -/
theorem SimG.turn {G : Gl} {W : Wd} {sto : List MO} {s : Shared} {a : Addr} {o o' : Obj} {h' : Heap} {tk : Nat} (S : SimG G W sto s) (h : W a = .prot o) (hs : ∀ b x, b ≠ a → s.heap.get? b = some x → h'.get? b = some x) (e : h'.get? a = some o') : SimG G (W.put a (.prot o')) sto { s with heap := h', toks := tk } := by
  have q : Leq W (W.put a (.prot o')) := Leq.turn h
  refine ⟨let ⟨_, _, e⟩ := S.sh; ⟨h', tk, by rw [e]⟩, fun b x k => q.1 b x (S.base b x k), fun b => ?_, fun x y i hx hy => ?_, low_put (fun _ e => nomatch e) S.low⟩
  · by_cases hb : b = a
    · subst hb; rw [Wd.put_self]; exact e
    · rw [Wd.put_ne W _ hb]
      exact (S.at_ b).mono q fun o x => hs b o hb x
  · have key : ∀ z, W.put a (.prot o') z = .cell i → W z = .cell i := fun z hz => by
      by_cases hz' : z = a
      · subst hz'; rw [Wd.put_self] at hz; cases hz
      · rw [Wd.put_ne W _ hz'] at hz; exact hz
    exact S.inj x y i (key x hx) (key y hy)
/-- a guarded object is let go -/
theorem SimG.drop {G : Gl} {W : Wd} {sto : List MO} {s : Shared} {a : Addr} {o : Obj} {h' : Heap} {tk : Nat} (S : SimG G W sto s) (h : W a = .prot o) (hs : ∀ b x, b ≠ a → s.heap.get? b = some x → h'.get? b = some x) : SimG G (W.put a .out) sto { s with heap := h', toks := tk } := by
  have q : Leq W (W.put a .out) := by
    refine ⟨fun b x e => ?_, fun b x e => ?_⟩
    · rw [Wd.put_ne]
      · exact e
      · rintro rfl; rw [h] at e; cases e
    · rw [Wd.put_ne]
      · exact e
      · rintro rfl; rw [h] at e; cases e
  refine ⟨let ⟨_, _, e⟩ := S.sh; ⟨h', tk, by rw [e]⟩, fun b x k => q.1 b x (S.base b x k), fun b => ?_, fun x y i hx hy => ?_, low_put (fun _ e => nomatch e) S.low⟩
  · by_cases hb : b = a
    · subst hb; rw [Wd.put_self]; exact trivial
    · rw [Wd.put_ne W _ hb]
      exact (S.at_ b).mono q fun o x => hs b o hb x
  · have key : ∀ z, W.put a .out z = .cell i → W z = .cell i := fun z hz => by
      by_cases hz' : z = a
      · subst hz'; rw [Wd.put_self] at hz; cases hz
      · rw [Wd.put_ne W _ hz'] at hz; exact hz
    exact S.inj x y i (key x hx) (key y hy)
/-- .. one that no frame holds -/
theorem LR.turn {w : World} {W : Wd} {own : Bool} {env : Env} {l : List (Str × V)} {h h' : Heap} {a : Addr} {o : Obj} {ro : Role} (r : LR w W own env l h) (ha : W a = .prot o) (hn : ∀ b vo, h.IsCell b vo → b ≠ a)
    (hs : ∀ b x, b ≠ a → h.get? b = some x → h'.get? b = some x) : LR w (W.put a ro) own env l h' := by
  obtain ⟨⟨m, hm, hl⟩, r2, r3, r4, r5, r6⟩ := r
  have q : Leq W (W.put a ro) := by
    refine ⟨fun b x e => ?_, fun b x e => ?_⟩
    · rw [Wd.put_ne]
      · exact e
      · rintro rfl; rw [ha] at e; cases e
    · rw [Wd.put_ne]
      · exact e
      · rintro rfl; rw [ha] at e; cases e
  refine ⟨⟨m, ?_, fun x v e1 e2 => let ⟨v', p, q'⟩ := hl x v e1 e2; ⟨v', p, q'.mono q⟩⟩, ?_, fun x e => ?_, r4, r5, fun x b e => ?_⟩
  · obtain ⟨o, es, ep, b, d⟩ := hm
    exact ⟨o, es, ep, hs _ _ (by rintro e; rw [e] at r2; rw [ha] at r2; cases r2) b, d⟩
  · rw [Wd.put_ne]; exact r2; rintro e; rw [e] at r2; rw [ha] at r2; cases r2
  · obtain ⟨b, vo, e1, e2, e3, e4⟩ := r3 x e
    have hb := hn b vo e2
    refine ⟨b, vo, e1, let ⟨o, f, g⟩ := e2; ⟨o, hs _ _ hb f, g⟩, ?_, fun v e => let ⟨v', p, q'⟩ := e4 v e; ⟨v', p, q'.mono q⟩⟩
    unfold CellRole at e3 ⊢
    rw [Wd.put_ne W _ hb]; exact e3
  · obtain ⟨⟨vo, e2⟩, e3⟩ := r6 x b e
    have hb := hn b vo e2
    refine ⟨⟨vo, let ⟨o, f, g⟩ := e2; ⟨o, hs _ _ hb f, g⟩⟩, ?_⟩
    unfold CellRole at e3 ⊢
    rw [Wd.put_ne W _ hb]; exact e3

theorem SimG.prot {G : Gl} {W : Wd} {sto : List MO} {s : Shared} {a : Addr} {o : Obj} (S : SimG G W sto s) (h : W a = .out) (e : s.heap.get? a = some o) : SimG G (W.put a (.prot o)) sto s := by
  have L : Le W (W.put a (.prot o)) := Le.put h
  refine ⟨S.sh, fun b o' k => L.q.1 b o' (S.base b o' k), fun b => ?_, fun x y i hx hy => ?_, low_put (fun _ e => nomatch e) S.low⟩
  · by_cases hb : b = a
    · subst hb; rw [Wd.put_self]; exact e
    · rw [Wd.put_ne W _ hb]; exact (S.at_ b).mono L.q fun _ x => x
  · have key : ∀ z, W.put a (.prot o) z = .cell i → W z = .cell i := fun z hz => by
      by_cases hz' : z = a
      · subst hz'; rw [Wd.put_self] at hz; cases hz
      · rw [Wd.put_ne W _ hz'] at hz; exact hz
    exact S.inj x y i (key x hx) (key y hy)
theorem Sim.prot {env : Env} {W : Wd} {σ : St} {s : Shared} {a : Addr} {o : Obj} (S : Sim c W env σ s) (h : W a = .out) (e : s.heap.get? a = some o) : Sim c (W.put a (.prot o)) env σ s :=
  ⟨S.1.prot h e, S.2.le (Le.put h) fun _ _ e => e⟩

/-- what a for loop walks -/
inductive Src (σ : St) : V → ISrc → Prop
  | lst (vs : List V) : Src σ (.lst vs) (.seq vs)
  | tup (vs : List V) : Src σ (.tup vs) (.seq vs)
  | rng {a b d : Int} {n : Nat} (hs : Builtin.Range.small a b d = true) (hn : Builtin.Range.rangeSize a b d = n) : Src σ (.rng a b d) (.seq ((List.range n).map fun (k : Nat) => V.int (a + (k : Int) * d)))
  | cell {i : Nat} {vs : List V} (h : σ.sto[i]? = some (.list vs)) : Src σ (.ref i) (.cell i)

theorem ItAt.mono {w : World} {W W' : Wd} {h h' : Heap} {I : Addr} {src : ISrc} {k : Nat} (q : Leq W W') (e : ∀ o, h.get? I = some o → h'.get? I = some o) (x : ItAt w W h I src k) : ItAt w W' h' I src k := by
  cases x with
  | lst a b c r f => exact .lst (q.1 _ _ a) b c (r.mono q) (f.at e)
  | tup a r f => exact .tup (q.1 _ _ a) (r.mono q) (let ⟨o, f, g⟩ := f; ⟨o, e _ f, g⟩)
  | rng a f => exact .rng a (e _ f)
  | cell a f => exact .cell (q.2 _ _ a) (f.at e)
theorem ItAt.ob {w : World} {W : Wd} {h : Heap} {I : Addr} {src : ISrc} {k : Nat} (x : ItAt w W h I src k) : ∃ o, h.get? I = some o ∧ ItOb o := by
  cases x with
  | lst a b c r f => obtain ⟨o, f, g, g'⟩ := f; exact ⟨o, f, _, g, by decide, fun v e => by rw [g'] at e; cases e⟩
  | tup a r f => obtain ⟨o, f, g, g'⟩ := f; exact ⟨o, f, _, g, by decide, fun v e => by rw [g'] at e; cases e⟩
  | rng a f => exact ⟨_, f, _, rfl, by decide, fun v e => by cases e⟩
  | cell a f => obtain ⟨o, f, g, g'⟩ := f; exact ⟨o, f, _, g, by decide, fun v e => by rw [g'] at e; cases e⟩

theorem Src.iter {W : Wd} {env : Env} {σ : St} {s : Shared} {A : Around} {a : V} {src : ISrc} {x : Value} {Q : Value → Shared → Prop} {E : Value → Shared → Prop} (r : Src σ a src) (hx : VR c.G.w W a x) (S : Sim c W env σ s)
    (h : ∀ I s', ItAt c.G.w W s'.heap I src 0 → W I = .out → s.heap.get? I = none → (∀ b o, s.heap.get? b = some o → s'.heap.get? b = some o) → Sim c W env σ s' → Q (.ref I) s') : wpAny (model c.G.prog c.G.w) A (pyIter x) Q E s := by
  have hn := fresh_none s.heap (Nat.le_refl _)
  have hout : W s.heap.objs.size = .out := S.1.out hn
  have hk : ∀ o b o', s.heap.get? b = some o' → (s.heap.push o).get? b = some o' := fun o b o' e => Heap.get?_push_of_some _ e
  cases r with
  | lst vs =>
    cases hx with
    | @lst a o xs n _ e1 e2 e3 r =>
      have hl : s.heap.IsList a xs := ⟨o, by have q := S.1.at_ a; rw [e1] at q; exact q, e2, n, e3⟩
      exact wpAny_pyIter_list hl (h _ _ (.lst e1 e2 e3 r ⟨_, Heap.get?_push_size _ rfl, rfl, rfl⟩) hout hn (hk _) (S.keeps (tk := s.toks) (hk _)))
  | tup vs =>
    cases hx with
    | @tup a xs n _ e1 r =>
      have hl : s.heap.IsTuple a xs := ⟨_, by have q := S.1.at_ a; rw [e1] at q; exact q, rfl, n, rfl⟩
      exact wpAny_pyIter_tuple hl (h _ _ (.tup e1 r ⟨_, Heap.get?_push_size _ rfl, rfl, rfl⟩) hout hn (hk _) (S.keeps (tk := s.toks) (hk _)))
  | @rng a b d n hs hN =>
    cases hx with
    | @rng r _ _ _ t u v e1 =>
      have q := S.1.at_ r
      rw [e1] at q
      refine wpAny_pyIter_range (r := r) q hs (h _ _ (.rng (Nat.zero_le _) ?_) hout hn (hk _) (S.keeps (tk := s.toks) (hk _)))
      rw [hN]
      simpa using Heap.get?_push_size s.heap (o := { cls := .type "range_iterator", data := .fields #[rawInt a, rawInt n, rawInt d] }) rfl
  | @cell i vs e =>
    cases hx with
    | @ref _ a e1 =>
      have q := S.1.at_ a
      rw [e1] at q
      obtain ⟨m, o, e2, e3, e4⟩ := q
      rw [e] at e2; cases e2
      cases e4 with
      | list r =>
        exact wpAny_pyIter_list ⟨_, e3, rfl, _, rfl⟩ (h _ _ (.cell e1 ⟨_, Heap.get?_push_size _ rfl, rfl, rfl⟩) hout hn (hk _) (S.keeps (tk := s.toks) (hk _)))

theorem ItAt.next {G : Gl} {W : Wd} {s : Shared} {sto : List MO} {A : Around} {I : Addr} {src : ISrc} {k : Nat} {vs : List V} {Q : Option Value → Shared → Prop} {E : Value → Shared → Prop} (It : ItAt G.w W s.heap I src k) (S : SimG G W sto s) (hI : (∃ o, W I = .prot o) ∨ W I = .out) (hA : A.handled = none) (hv : Items sto src vs)
    (h1 : ∀ v x h' tk, vs[k]? = some v → VR G.w W v x → (∀ b o, b ≠ I → s.heap.get? b = some o → h'.get? b = some o) → ItAt G.w W h' I src (k + 1) → Q (some x) { s with heap := h', toks := tk })
    (h2 : ∀ h' tk, vs.length ≤ k → (∀ b o, b ≠ I → s.heap.get? b = some o → h'.get? b = some o) → Q none { s with heap := h', toks := tk }) : wpAny (model G.prog G.w) A (pyNext (.ref I)) Q E s := by
  have ne : ∀ {a : Addr}, (∃ o, W a = .froz o) ∨ (∃ i, W a = .cell i) → a ≠ I := by
    rintro a h rfl
    rcases hI with ⟨o, e⟩ | e <;> rcases h with ⟨_, f⟩ | ⟨_, f⟩ <;> rw [e] at f <;> cases f
  have lists : ∀ {a : Addr} {xs : Array Value}, a ≠ I → s.heap.IsList a xs → s.heap.IsListIter I a k → VRs G.w W vs xs.toList → (∀ h' : Heap, h'.IsListIter I a (k + 1) → ItAt G.w W h' I src (k + 1)) → wpAny (model G.prog G.w) A (pyNext (.ref I)) Q E s := by
    intro a xs hne hl hi r hit
    have hlen := r.length
    rw [Array.length_toList] at hlen
    cases hx : xs[k]? with
    | none =>
      refine wpAny_pyNext_list_end hA hi hl hx fun h' he => h2 h' s.toks ?_ fun b o hb e => he b o hb e
      rw [Array.getElem?_eq_none_iff] at hx; omega
    | some x =>
      have hx' : xs.toList[k]? = some x := by rw [Array.getElem?_toList]; exact hx
      have hb := (List.getElem?_eq_some_iff.mp hx').1
      rw [r.length] at hb
      obtain ⟨y, hy, ry⟩ := r.get (List.getElem?_eq_getElem hb)
      rw [hx'] at hy; cases hy
      refine wpAny_pyNext_list_item hi hl hx fun h' hi' hs => h1 _ x h' s.toks (List.getElem?_eq_getElem hb) ry (fun b o hb e => hs.extBut b o hb e) (hit h' hi')
  cases It with
  | @lst a o xs n us _ e1 e2 e3 r f =>
    have hv' : us = vs := hv
    subst hv'
    exact lists (ne (.inl ⟨_, e1⟩)) ⟨o, by have q := S.at_ a; rw [e1] at q; exact q, e2, n, e3⟩ f r fun h' e => .lst e1 e2 e3 r e
  | @cell a i _ e1 f =>
    have q := S.at_ a
    rw [e1] at q
    obtain ⟨m, o, e2, e3, e4⟩ := q
    rw [show sto[i]? = some (.list vs) from hv] at e2; cases e2
    cases e4 with
    | list r => exact lists (ne (.inr ⟨_, e1⟩)) ⟨_, e3, rfl, _, rfl⟩ f r fun h' e => .cell e1 e
  | @tup a xs n us _ e1 r f =>
    have hv' : us = vs := hv
    subst hv'
    have hl : s.heap.IsTuple a xs := ⟨_, by have q := S.at_ a; rw [e1] at q; exact q, rfl, n, rfl⟩
    have hlen := r.length
    rw [Array.length_toList] at hlen
    cases hx : xs[k]? with
    | none =>
      refine wpAny_pyNext_tuple_end hA f hl hx fun h' he => h2 h' s.toks ?_ fun b o hb e => he b o hb e
      rw [Array.getElem?_eq_none_iff] at hx; omega
    | some x =>
      have hx' : xs.toList[k]? = some x := by rw [Array.getElem?_toList]; exact hx
      have hb := (List.getElem?_eq_some_iff.mp hx').1
      rw [r.length] at hb
      obtain ⟨y, hy, ry⟩ := r.get (List.getElem?_eq_getElem hb)
      rw [hx'] at hy; cases hy
      exact wpAny_pyNext_tuple_item f hl hx fun h' hi' hs => h1 _ x h' s.toks (List.getElem?_eq_getElem hb) ry (fun b o hb e => hs.extBut b o hb e) (.tup e1 r hi')
  | @rng a d n _ hk f =>
    have hv' : ((List.range n).map fun (k : Nat) => V.int (a + (k : Int) * d)) = vs := hv
    subst hv'
    by_cases hlt : k < n
    · refine wpAny_pyNext_range_item f (by omega) fun h' hi' hs => h1 (.int (a + (k : Int) * d)) _ h' _ (by simp [hlt]) (.int _ _) (fun b o hb e => hs.extBut b o hb e) (.rng hlt ?_)
      have e1 : a + ((k + 1 : Nat) : Int) * d = a + (k : Int) * d + d := by rw [Int.natCast_add, Int.add_mul]; omega
      have e2 : (n : Int) - ((k + 1 : Nat) : Int) = (n : Int) - k - 1 := by omega
      rw [e1, e2]; exact hi'
    · exact wpAny_pyNext_range_end hA f (by omega) fun h' he => h2 h' s.toks (by simp; omega) fun b o hb e => he b o hb e
end
section
variable {c : Cx} {σ : St}

/-- the end of a loop's turn -/
def Turn (J : St → Prop) (Q : Fl → St → Prop) : Fl → St → Prop
  | .next, σ => ∃ l, Sub l σ.loc ∧ J ⟨l, σ.sto⟩
  | .cont, σ => ∃ l, Sub l σ.loc ∧ J ⟨l, σ.sto⟩
  | .brk, σ => Q .next σ
  | .ret v, σ => Q (.ret v) σ

/-- a loop over an iterator that the frame guards -/
theorem for_loop {W₁ : Wd} {env : Env} {s₂ : Shared} {A : Around} {target : Expr} {body orelse : List Stmt} {I : Addr} {src : ISrc} {Q : Fl → St → Prop} {σ₁ : St} {R : Result → Shared → Prop} (J : Nat → St → Prop)
    (hE : EnvOk c env) (hA : AOk c.n A) (S₂ : Sim c W₁ env σ₁ s₂) (It : ItAt c.G.w W₁ s₂.heap I src 0) (hout : W₁ I = .out) (hJ : J 0 σ₁) (meas : Nat → St → Nat)
    (hturn : ∀ k σ', J k σ' → ∃ vs, Items σ'.sto src vs ∧ (∀ v, vs[k]? = some v → Asg c target v σ' fun _ σ₂ => Exs c body σ₂ (Turn (fun σ'' => J (k + 1) σ'' ∧ meas (k + 1) σ'' < meas k σ') Q)) ∧ (vs.length ≤ k → Exs c orelse σ' Q))
    (hR : ∀ f σ' W' x s', Q f σ' → Le W₁ W' → FR c.G.w W' f x → Sim c W' env σ' s' → R (.ok x) s') :
    codeAny (model c.G.prog c.G.w) A (.forLoop target (.ref I) body orelse env) R s₂ := by
  obtain ⟨o, hI, hob⟩ := It.ob
  have Sp := S₂.prot hout hI
  have nocell : ∀ (W' : Wd) (σ' : St) (s' : Shared), Sim c W' env σ' s' → ∀ o', W' I = .prot o' → ItOb o' → ∀ b vo, s'.heap.IsCell b vo → b ≠ I := by
    rintro W' σ' s' S' o' hWI ⟨_, _, _, hnc'⟩ b vo hc rfl
    obtain ⟨ob, e1, e2⟩ := hc
    have q := S'.1.at_ b
    rw [hWI] at q
    rw [show s'.heap.get? b = some o' from q] at e1
    cases e1
    exact hnc' _ e2
  refine codeAny_forLoop_any (fun n s' => ∃ k σ' W' o', n = meas k σ' ∧ J k σ' ∧ Le W₁ W' ∧ W' I = .prot o' ∧ ItOb o' ∧ ItAt c.G.w W' s'.heap I src k ∧ Sim c W' env σ' s') ?_ (meas 0 σ₁)
    ⟨0, σ₁, W₁.put I (.prot o), o, rfl, hJ, Le.put hout, Wd.put_self _ _ _, hob, It.mono (Le.put hout).q (fun _ e => e), Sp⟩
  rintro n s' ⟨k, σ', W', o', rfl, hJk, hle, hWI, hob', hit, S'⟩
  obtain ⟨vs, hitems, hgo, hend⟩ := hturn k σ' hJk
  refine hit.next S'.1 (.inl ⟨_, hWI⟩) hA.1 hitems (fun v x h' tk hv rv hs hit' => ?_) (fun h' tk hlen hs => ?_)
  · obtain ⟨oI, g1, g2⟩ := hit'.ob
    have S'' : Sim c (W'.put I (.prot oI)) env σ' { s' with heap := h', toks := tk } := ⟨S'.1.turn hWI hs g1, S'.2.turn hWI (nocell W' σ' s' S' o' hWI hob') hs⟩
    have leT : Le W₁ (W'.put I (.prot oI)) := fun b hb => by
      rw [Wd.put_ne]
      · exact hle b hb
      · rintro rfl; exact hb hout
    have lqT : Leq W' (W'.put I (.prot oI)) := Leq.turn hWI
    obtain ⟨nm, g3, g4, g5⟩ := id g2
    dsimp only
    refine let_go (o := oI) g1 g3 g4 ?_
    refine seq1 (hgo v hv) hE hA S'' ⟨x, rv.mono lqT, rfl⟩ fun _ σ₂ W₂ _ s₃ h₂ l₂ _ S₃ => ?_
    refine seq1 h₂ hE hA S₃ rfl fun f σ₃ W₃ fv s₄ h₃ l₃ r₃ S₄ => ?_
    have hI3 : W₃ I = .prot oI := by
      have e2 : W₂ I = .prot oI := by rw [l₂ I (by rw [Wd.put_self]; exact fun e => by cases e), Wd.put_self]
      rw [l₃ I (by rw [e2]; exact fun e => by cases e), e2]
    have hit4 : ItAt c.G.w W₃ s₄.heap I src (k + 1) := by
      refine hit'.mono ((lqT.trans l₂.q).trans l₃.q) fun ob e => ?_
      have q := S₄.1.at_ I
      rw [hI3] at q
      rw [g1] at e; cases e; exact q
    have lw := (leT.trans l₂).trans l₃
    have goon : ∀ l, Sub l σ₃.loc → J (k + 1) ⟨l, σ₃.sto⟩ ∧ meas (k + 1) ⟨l, σ₃.sto⟩ < meas k σ' → ∃ m, m < meas k σ' ∧ ∃ k' σ' W' o', m = meas k' σ' ∧ J k' σ' ∧ Le W₁ W' ∧ W' I = .prot o' ∧ ItOb o' ∧ ItAt c.G.w W' s₄.heap I src k' ∧ Sim c W' env σ' s₄ :=
      fun l hl ⟨hj, hm⟩ => ⟨_, hm, k + 1, ⟨l, σ₃.sto⟩, W₃, oI, rfl, hj, lw, hI3, g2, hit4, S₄.sub hl⟩
    cases r₃ with
    | next => obtain ⟨l, hl, hj⟩ := h₃; exact goon l hl hj
    | cont => obtain ⟨l, hl, hj⟩ := h₃; exact goon l hl hj
    | brk => exact hR .next σ₃ W₃ _ _ h₃ lw .next S₄
    | ret r => exact hR (.ret _) σ₃ W₃ _ _ h₃ lw (.ret r) S₄
  · have S'' : Sim c (W'.put I .out) env σ' { s' with heap := h', toks := tk } := ⟨S'.1.drop hWI hs, S'.2.turn hWI (nocell W' σ' s' S' o' hWI hob') hs⟩
    have l' : Le W₁ (W'.put I .out) := fun b hb => by
      rw [Wd.put_ne]
      · exact hle b hb
      · rintro rfl; exact hb hout
    dsimp only
    exact seq1 (hend hlen) hE hA S'' rfl fun f σ₃ W₃ fv s₄ h₃ l₃ r₃ S₄ => hR f σ₃ W₃ _ _ h₃ (l'.trans l₃) r₃ S₄

theorem Ex_for {target iter : Expr} {body orelse : List Stmt} {pos : Pos} {Q : Fl → St → Prop} (J : Nat → St → Prop) (hf : ∀ env x, foldedSetIterable iter env x = pure x)
    (h : Ev c iter σ fun a σ₁ => ∃ vs, Src σ₁ a (.seq vs) ∧ J 0 σ₁ ∧ (∀ k v σ', vs[k]? = some v → J k σ' → Asg c target v σ' fun _ σ₂ => Exs c body σ₂ (Turn (J (k + 1)) Q)) ∧ ∀ σ', J vs.length σ' → Exs c orelse σ' Q) :
    Ex c (.For target iter body orelse pos) σ Q := by
  intro W env s A m hE hA hS hT
  subst hT
  refine wpAny_For (seq1 h hE hA hS rfl fun a σ₁ W₁ x s₁ h₁ l₁ r₁ S₁ => ?_) (hf env)
  obtain ⟨vs, hsrc, hJ, hturn, hend⟩ := h₁
  refine hsrc.iter r₁ S₁ fun I s₂ It hout _ _ S₂ => ?_
  refine for_loop (Q := Q) (fun k σ' => k ≤ vs.length ∧ J k σ') hE hA S₂ It hout ⟨Nat.zero_le _, hJ⟩ (fun k _ => vs.length - k) (fun k σ' ⟨hk, hj⟩ => ⟨vs, rfl, fun v hv => ?_, fun hl => ?_⟩) fun f σ' W' x s' q l r S' => ⟨f, σ', W', q, l₁.trans l, r, S'⟩
  · have hb := (List.getElem?_eq_some_iff.mp hv).1
    refine (hturn k v σ' hv hj).mono fun _ σ₂ h₂ => h₂.mono fun f σ₃ h₃ => ?_
    cases f with
    | next => obtain ⟨l, hl, hj⟩ := h₃; exact ⟨l, hl, ⟨hb, hj⟩, by omega⟩
    | cont => obtain ⟨l, hl, hj⟩ := h₃; exact ⟨l, hl, ⟨hb, hj⟩, by omega⟩
    | brk => exact h₃
    | ret r => exact h₃
  · have : k = vs.length := by omega
    subst this
    exact hend σ' hj
/-- .. over a list of the store that may turn: J k says where the walk stands -/
theorem Ex_forC {target iter : Expr} {body orelse : List Stmt} {pos : Pos} {Q : Fl → St → Prop} (J : Nat → St → Prop) (meas : Nat → St → Nat) (hf : ∀ env x, foldedSetIterable iter env x = pure x)
    (h : Ev c iter σ fun a σ₁ => ∃ i, Src σ₁ a (.cell i) ∧ J 0 σ₁ ∧ (∀ k σ', J k σ' → ∃ vs, σ'.sto[i]? = some (.list vs) ∧ (∀ v, vs[k]? = some v → Asg c target v σ' fun _ σ₂ => Exs c body σ₂ (Turn (fun σ'' => J (k + 1) σ'' ∧ meas (k + 1) σ'' < meas k σ') Q)) ∧ (vs.length ≤ k → Exs c orelse σ' Q))) :
    Ex c (.For target iter body orelse pos) σ Q := by
  intro W env s A m hE hA hS hT
  subst hT
  refine wpAny_For (seq1 h hE hA hS rfl fun a σ₁ W₁ x s₁ h₁ l₁ r₁ S₁ => ?_) (hf env)
  obtain ⟨i, hsrc, hJ, hturn⟩ := h₁
  refine hsrc.iter r₁ S₁ fun I s₂ It hout _ _ S₂ => ?_
  exact for_loop (Q := Q) J hE hA S₂ It hout hJ meas (fun k σ' hj => hturn k σ' hj) fun f σ' W' x s' q l r S' => ⟨f, σ', W', q, l₁.trans l, r, S'⟩
end
section
variable {c : Cx} {σ : St}

theorem Ex_while {t : Expr} {body orelse : List Stmt} {pos : Pos} {Q : Fl → St → Prop} (I : Nat → St → Prop) (n₀ : Nat) (h0 : ∃ l, Sub l σ.loc ∧ I n₀ ⟨l, σ.sto⟩)
    (turn : ∀ n σ', I n σ' → Tst c t σ' fun b σ₁ => if b then Exs c body σ₁ (Turn (fun σ => ∃ m, m < n ∧ I m σ) Q) else Exs c orelse σ₁ Q) : Ex c (.While t body orelse pos) σ Q := by
  intro W env s A m hE hA hS hT
  subst hT
  obtain ⟨l, hl, hI⟩ := h0
  refine wpAny_While (codeAny_whileLoop (fun n s' => ∃ σ' W', I n σ' ∧ Le W W' ∧ Sim c W' env σ' s') ?_ n₀ ⟨⟨l, σ.sto⟩, W, hI, Le.refl W, hS.sub hl⟩)
  rintro n s' ⟨σ', W', hI', l₀, S'⟩
  refine seq1 (turn n σ' hI') hE hA S' rfl fun b σ₁ W₁ x s₁ h₁ l₁ r₁ S₁ => ?_
  subst r₁
  cases b
  · simp only [Bool.false_eq_true, if_false] at h₁ ⊢
    exact seq1 h₁ hE hA S₁ rfl fun f σ₃ W₃ z s₃ q l₃ r₃ S₃ => ⟨f, σ₃, W₃, q, (l₀.trans l₁).trans l₃, r₃, S₃⟩
  · simp only [if_true] at h₁ ⊢
    refine seq1 h₁ hE hA S₁ rfl fun f σ₃ W₃ z s₃ q l₃ r₃ S₃ => ?_
    have lw := (l₀.trans l₁).trans l₃
    cases r₃ with
    | next => obtain ⟨l, hl, k, hk, hj⟩ := q; exact ⟨k, hk, ⟨l, σ₃.sto⟩, W₃, hj, lw, S₃.sub hl⟩
    | cont => obtain ⟨l, hl, k, hk, hj⟩ := q; exact ⟨k, hk, ⟨l, σ₃.sto⟩, W₃, hj, lw, S₃.sub hl⟩
    | brk => exact ⟨.next, σ₃, W₃, q, lw, .next, S₃⟩
    | ret r => exact ⟨.ret _, σ₃, W₃, q, lw, .ret r, S₃⟩
end

/-! calls of the text's own defs -/
/-- f, called with args, ends and gives back what Q says; n: the depth that it may take -/
def Calls (G : Gl) (n : Nat) (f : Value) (args : List V) (sto : List MO) (Q : V → List MO → Prop) : Prop :=
  ∀ W s A xs, (∀ a, W a ≠ .own) → AOk n A → SimG G W sto s → VRs G.w W args xs →
    codeAny (model G.prog G.w) A (.call f ⟨xs, []⟩) (fun r s' => ∃ x v sto' W', r = .ok (.ret x) ∧ Q v sto' ∧ Le W W' ∧ (∀ a, W' a ≠ .own) ∧ VR G.w W' v x ∧ SimG G W' sto' s') s

theorem Calls.mono {G : Gl} {n : Nat} {f : Value} {args : List V} {sto : List MO} {Q Q' : V → List MO → Prop} (h : Calls G n f args sto Q) (k : ∀ v sto, Q v sto → Q' v sto) : Calls G n f args sto Q' :=
  fun W s A xs h0 hA hS hx => codeAny_mono (h W s A xs h0 hA hS hx) fun _ _ ⟨x, v, sto', W', e, q, r⟩ => ⟨x, v, sto', W', e, k _ _ q, r⟩
theorem Calls.more {G : Gl} {n k : Nat} {f : Value} {args : List V} {sto : List MO} {Q : V → List MO → Prop} (h : Calls G n f args sto Q) (e : n ≤ k) : Calls G k f args sto Q :=
  fun W s A xs h0 hA hS hx => h W s A xs h0 (hA.less e) hS hx

/-- the frame's own objects are guarded for the time of a call -/
def guardW (W : Wd) (h : Heap) : Wd := fun a => match W a with
  | .own => match h.get? a with
    | some o => .prot o
    | none => .out
  | r => r
def backW (W W' : Wd) : Wd := fun a => match W a with
  | .own => .own
  | _ => W' a
theorem guardW_ne {W : Wd} {h : Heap} {a : Addr} (e : W a ≠ .own) : guardW W h a = W a := by
  unfold guardW
  split
  · rename_i q; exact absurd q e
  · rfl
theorem backW_ne {W W' : Wd} {a : Addr} (e : W a ≠ .own) : backW W W' a = W' a := by
  unfold backW
  split
  · rename_i q; exact absurd q e
  · rfl
theorem backW_own {W W' : Wd} {a : Addr} (e : W a = .own) : backW W W' a = .own := by
  unfold backW; rw [e]
theorem guardW_q (W : Wd) (h : Heap) : Leq W (guardW W h) := ⟨fun a o e => by rw [guardW_ne (by rw [e]; exact fun x => by cases x)]; exact e, fun a o e => by rw [guardW_ne (by rw [e]; exact fun x => by cases x)]; exact e⟩
theorem SimG.guard {G : Gl} {W : Wd} {sto : List MO} {s : Shared} (S : SimG G W sto s) : SimG G (guardW W s.heap) sto s := by
  have q := guardW_q W s.heap
  refine ⟨S.sh, fun b x k => q.1 b x (S.base b x k), fun b => ?_, fun x y i hx hy => ?_, fun x i hx => ?_⟩
  · have k := (S.at_ b).mono q (fun _ x => x)
    by_cases e : W b = .own
    · rw [e] at k
      obtain ⟨o, ho⟩ := k
      have : guardW W s.heap b = .prot o := by unfold guardW; rw [e, ho]
      rw [this]; exact ho
    · rw [guardW_ne e]; exact k
  · have key : ∀ z, guardW W s.heap z = .cell i → W z = .cell i := fun z hz => by
      by_cases e : W z = .own
      · unfold guardW at hz; rw [e] at hz; simp only at hz; split at hz <;> cases hz
      · rw [guardW_ne e] at hz; exact hz
    exact S.inj x y i (key x hx) (key y hy)
  · have key : ∀ z, guardW W s.heap z = .cell i → W z = .cell i := fun z hz => by
      by_cases e : W z = .own
      · unfold guardW at hz; rw [e] at hz; simp only at hz; split at hz <;> cases hz
      · rw [guardW_ne e] at hz; exact hz
    exact S.low x i (key x hx)
theorem guardW_no {W : Wd} {h : Heap} (a : Addr) : guardW W h a ≠ .own := by
  unfold guardW
  split
  · split <;> exact fun x => by cases x
  · rename_i q; exact q

theorem Sim.back {c : Cx} {W W' : Wd} {env : Env} {σ : St} {s s' : Shared} {sto' : List MO} (S : Sim c W env σ s) (l : Le (guardW W s.heap) W') (S' : SimG c.G W' sto' s') :
    Sim c (backW W W') env ⟨σ.loc, sto'⟩ s' ∧ Le W (backW W W') ∧ Leq W' (backW W W') := by
  have own : ∀ a, W a = .own → ∃ o, s.heap.get? a = some o ∧ W' a = .prot o := fun a e => by
    have k := S.1.at_ a
    rw [e] at k
    obtain ⟨o, ho⟩ := k
    have : guardW W s.heap a = .prot o := by unfold guardW; rw [e, ho]
    exact ⟨o, ho, (l a (by rw [this]; exact fun x => by cases x)).trans this⟩
  have hle : Le W (backW W W') := fun a e => by
    by_cases h : W a = .own
    · rw [backW_own h, h]
    · rw [backW_ne h, l a (by rw [guardW_ne h]; exact e), guardW_ne h]
  have hq : Leq W' (backW W W') := by
    refine ⟨fun a o e => ?_, fun a o e => ?_⟩
    · rw [backW_ne]
      · exact e
      · intro h; obtain ⟨_, _, q⟩ := own a h; rw [q] at e; cases e
    · rw [backW_ne]
      · exact e
      · intro h; obtain ⟨_, _, q⟩ := own a h; rw [q] at e; cases e
  refine ⟨⟨⟨S'.sh, fun b x k => hq.1 b x (S'.base b x k), fun b => ?_, fun x y i hx hy => ?_, fun x i hx => ?_⟩, ?_⟩, hle, hq⟩
  · have k := (S'.at_ b).mono hq (fun _ x => x)
    by_cases e : W b = .own
    · rw [backW_own e]
      obtain ⟨o, _, q⟩ := own b e
      rw [q] at k
      exact ⟨o, k⟩
    · rw [backW_ne e]; exact k
  · have key : ∀ z, backW W W' z = .cell i → W' z = .cell i := fun z hz => by
      by_cases e : W z = .own
      · rw [backW_own e] at hz; cases hz
      · rw [backW_ne e] at hz; exact hz
    exact S'.inj x y i (key x hx) (key y hy)
  · have key : ∀ z, backW W W' z = .cell i → W' z = .cell i := fun z hz => by
      by_cases e : W z = .own
      · rw [backW_own e] at hz; cases hz
      · rw [backW_ne e] at hz; exact hz
    exact S'.low x i (key x hx)
  · refine S.2.keeps hle.q (fun a e => backW_own e) (fun a o e => ?_) fun a o ha e => ?_
    · exact (hle a (by rw [e]; exact fun x => by cases x)).trans e
    · rcases ha with ha | ⟨o', ha⟩
      · obtain ⟨o2, e2, q⟩ := own a ha
        rw [e2] at e; cases e
        have k := S'.at_ a
        rw [q] at k
        exact k
      · have k := S.1.at_ a
        rw [ha] at k
        have k' : s.heap.get? a = some o' := k
        rw [k'] at e; cases e
        have k2 := S'.at_ a
        rw [l a (by rw [guardW_ne (by rw [ha]; exact fun x => by cases x), ha]; exact fun x => by cases x), guardW_ne (by rw [ha]; exact fun x => by cases x), ha] at k2
        exact k2

/-- a call of an own def within a frame -/
theorem CallV_fun {c : Cx} {σ : St} {n : Nat} {f : Value} {vs : List V} {Q : V → St → Prop} (h : Calls c.G n f vs σ.sto fun v sto' => Q v ⟨σ.loc, sto'⟩) (hn : n ≤ c.n) : CallV c f vs σ Q := by
  intro W env s A m hE hA hS hT
  obtain ⟨xs, hx, rfl⟩ := hT
  refine wpAny_call (codeAny_mono (h (guardW W s.heap) s A xs guardW_no (hA.less hn) hS.1.guard (hx.mono (guardW_q _ _))) ?_)
  rintro r s' ⟨x, v, sto', W', rfl, q, l, hno, rv, S'⟩
  obtain ⟨S'', le, lq⟩ := hS.back l S'
  exact ⟨v, _, _, q, le, rv.mono lq, S''⟩

/-! a def's frame -/
theorem SimG.owned {G : Gl} {W W' : Wd} {sto : List MO} {s : Shared} (S : SimG G W sto s) (l : Le W W') (h : ∀ a, W a = .out → W' a = .out ∨ (W' a = .own ∧ ∃ o, s.heap.get? a = some o)) : SimG G W' sto s := by
  refine ⟨S.sh, fun b x k => l.q.1 b x (S.base b x k), fun b => ?_, fun x y i hx hy => ?_, fun x i hx => ?_⟩
  · by_cases e : W b = .out
    · rcases h b e with e' | ⟨e', o, ho⟩
      · rw [e']; exact trivial
      · rw [e']; exact ⟨o, ho⟩
    · rw [l b e]; exact (S.at_ b).mono l.q fun _ x => x
  · have key : ∀ z, W' z = .cell i → W z = .cell i := fun z hz => by
      by_cases e : W z = .out
      · rcases h z e with e' | ⟨e', _⟩ <;> rw [e'] at hz <;> cases hz
      · rw [l z e] at hz; exact hz
    exact S.inj x y i (key x hx) (key y hy)
  · have key : ∀ z, W' z = .cell i → W z = .cell i := fun z hz => by
      by_cases e : W z = .out
      · rcases h z e with e' | ⟨e', _⟩ <;> rw [e'] at hz <;> cases hz
      · rw [l z e] at hz; exact hz
    exact S.low x i (key x hx)

theorem bindL_look (k : Str → Option NameKind) (y : Str) (hy : k y = some .local) : ∀ (l : List (Str × Value)) (m : Str → Option Value) (v : Value), l.reverse.lookup y = some v → bindL k l m y = some v := by
  have gen : ∀ (l : List (Str × Value)) (m : Str → Option Value), bindL k l m y = (l.reverse.lookup y).or (m y) := by
    intro l
    induction l with
    | nil => intro m; simp [bindL]
    | cons p l ih =>
      intro m
      obtain ⟨n, v⟩ := p
      rw [bindL, ih, List.reverse_cons, List.lookup_append]
      by_cases e : y = n
      · subst e; simp [hy]
      · by_cases hk : k n = some .local
        · simp [hk, e, List.lookup, beq_eq_false_iff_ne.mpr e]
        · simp [hk, List.lookup, beq_eq_false_iff_ne.mpr e]
  intro l m v h
  rw [gen, h]; rfl
theorem bindC_look (k : Str → Option NameKind) (y : Str) (hy : k y ≠ some .local) : ∀ (l : List (Str × Value)) (m : Str → Option Value) (v : Value), l.reverse.lookup y = some v → bindC k l m y = some v := by
  have gen : ∀ (l : List (Str × Value)) (m : Str → Option Value), bindC k l m y = (l.reverse.lookup y).or (m y) := by
    intro l
    induction l with
    | nil => intro m; simp [bindC]
    | cons p l ih =>
      intro m
      obtain ⟨n, v⟩ := p
      rw [bindC, ih, List.reverse_cons, List.lookup_append]
      by_cases e : y = n
      · subst e; simp [hy]
      · by_cases hk : k n = some .local
        · simp [hk, List.lookup, beq_eq_false_iff_ne.mpr e]
        · simp [hk, e, List.lookup, beq_eq_false_iff_ne.mpr e]
  intro l m v h
  rw [gen, h]; rfl

inductive Binds (w : World) (W : Wd) : List (Str × V) → List (Str × Value) → Prop
  | nil : Binds w W [] []
  | cons {x : Str} {v : V} {y : Value} {l : List (Str × V)} {m : List (Str × Value)} : VR w W v y → Binds w W l m → Binds w W ((x, v) :: l) ((x, y) :: m)
theorem Binds.mono {w : World} {W W' : Wd} (q : Leq W W') : ∀ {l : List (Str × V)} {m : List (Str × Value)}, Binds w W l m → Binds w W' l m
  | _, _, .nil => .nil
  | _, _, .cons a b => .cons (a.mono q) (b.mono q)
theorem Binds.snoc {w : World} {W : Wd} {x : Str} {v : V} {y : Value} (r : VR w W v y) : ∀ {l : List (Str × V)} {m : List (Str × Value)}, Binds w W l m → Binds w W (l ++ [(x, v)]) (m ++ [(x, y)])
  | _, _, .nil => .cons r .nil
  | _, _, .cons a b => .cons a (b.snoc r)
theorem Binds.reverse {w : World} {W : Wd} : ∀ {l : List (Str × V)} {m : List (Str × Value)}, Binds w W l m → Binds w W l.reverse m.reverse
  | _, _, .nil => .nil
  | _, _, .cons a b => by rw [List.reverse_cons, List.reverse_cons]; exact b.reverse.snoc a
theorem Binds.look {w : World} {W : Wd} {x : Str} {v : V} : ∀ {l : List (Str × V)} {m : List (Str × Value)}, Binds w W l m → l.lookup x = some v → ∃ y, m.lookup x = some y ∧ VR w W v y
  | _, _, .nil, h => by simp at h
  | (z, _) :: _, _, .cons a b, h => by
    by_cases e : x = z
    · subst e
      rw [lookup_cons_self] at h ⊢
      cases h
      exact ⟨_, rfl, a⟩
    · rw [lookup_cons_ne _ _ e] at h ⊢
      exact b.look h
theorem Binds.names {w : World} {W : Wd} : ∀ {l : List (Str × V)} {m : List (Str × Value)}, Binds w W l m → m.map (·.1) = l.map (·.1)
  | _, _, .nil => rfl
  | _, _, .cons a b => by rw [List.map_cons, List.map_cons, b.names]

def Fl.val : Fl → V
  | .ret v => v
  | _ => .none
/-- a def of the text -/
structure FnOk (G : Gl) (f : Addr) (fd : FuncData) (body : List Stmt) : Prop where
  at_ : ∃ o, G.s0.heap.get? f = some o ∧ o.data = .func fd
  body : fd.body = .stmts body
  co : fd.scope.isCoroutine = false
  gen : fd.scope.isGenerator = false
  kind : fd.scope.kind = .function
  globals : fd.globals = mainGlobals
  builtins : fd.builtins = builtinsNs
  closure : fd.closure = []
  code : G.s0.heap.CodeRec fd.code fd.qualname
  free : fd.scope.names.all (fun y => y.2 != .free) = true

theorem Calls_def {G : Gl} {n : Nat} {f : Addr} {fd : FuncData} {body : List Stmt} {args : List V} {sto : List MO} {Q : V → List MO → Prop} (F : FnOk G f fd body) (bs : List (Str × V))
    (hbind : ∀ W s xs, SimG G W sto s → VRs G.w W args xs → ∃ binds, Binds G.w W bs binds ∧ BindsTo s fd ⟨xs, []⟩ binds)
    (hkind : (bs.all fun y => fd.scope.names.lookup y.1 == some .local || fd.scope.names.lookup y.1 == some .cell) = true)
    (h : Exs ⟨G, fd.scope, true, n⟩ body ⟨bs.reverse, sto⟩ fun fl σ => Q fl.val σ.sto) : Calls G (n + 1) (.ref f) args sto Q := by
  classical
  intro W s A xs hno hA hS hx
  obtain ⟨o, ho, hd⟩ := F.at_
  obtain ⟨binds, hb, hbt⟩ := hbind W s xs hS hx
  have kp := base_keeps hS
  refine codeAny_call_function hA.room (kp _ _ ho) hd F.co F.gen F.body (let ⟨c, oc, vs, t, e1, e2, e3⟩ := F.code; ⟨c, oc, vs, t, e1, kp _ _ e2, e3⟩) (hbt _ _ _ _ ?_)
  rw [F.closure]
  have hk' : (binds.all fun y => fd.scope.names.lookup y.1 == some .local || fd.scope.names.lookup y.1 == some .cell) = true := by
    have e : ∀ l : List (Str × Value), (l.all fun y => fd.scope.names.lookup y.1 == some .local || fd.scope.names.lookup y.1 == some .cell) = (l.map (·.1)).all fun y => fd.scope.names.lookup y == some .local || fd.scope.names.lookup y == some .cell := fun l => by rw [List.all_map]; rfl
    rw [e, hb.names]
    rw [List.all_map]; exact hkind
  refine wpAny_newFunctionEnv_cells F.kind (kindsX hk' _) fun env he s' X => ⟨(G.lim.keeps kp).keeps X.toInCall.keep, ?_⟩
  have hEnv : EnvOk ⟨G, fd.scope, true, n⟩ env := by
    refine ⟨by rw [he]; rfl, by rw [he]; exact F.kind, by rw [he]; exact F.globals, ?_⟩
    rw [he]
    exact F.builtins
  have hL : env.locals = s.heap.objs.size := by rw [he]; rfl
  have hcs : env.cells = cellsFrom (s.heap.objs.size + 1) fd.scope.names [] := by rw [he]; rfl
  have hsc : env.scope = fd.scope := by rw [he]; rfl
  have hkd : ∀ x, env.kindOf x = fd.scope.names.lookup x := fun x => by unfold Env.kindOf; rw [hsc]
  obtain ⟨hh, tk, es⟩ := X.toInCall.same
  -- the world with the frame
  let W₁ : Wd := fun a => if a = env.locals ∨ (∃ x, env.cells.lookup x = some a) then .own else W a
  have above : ∀ a, (a = env.locals ∨ ∃ x, env.cells.lookup x = some a) → s.heap.objs.size ≤ a := by
    rintro a (e | ⟨x, e⟩)
    · rw [e, hL]; exact Nat.le_refl _
    · have := X.above x a (mem_of_lookup e)
      rw [hL] at this; exact Nat.le_of_lt this
  have hout : ∀ a, (a = env.locals ∨ ∃ x, env.cells.lookup x = some a) → W a = .out := fun a e => hS.out (fresh_none _ (above a e))
  have hle : Le W W₁ := fun a e => if_neg fun h => e (hout a h)
  have hmine : ∀ a, (a = env.locals ∨ ∃ x, env.cells.lookup x = some a) → W₁ a = .own := fun a e => if_pos e
  have S₁ : SimG G W₁ sto s' := by
    have S0 : SimG G W sto s' := by rw [es]; exact hS.keeps (tk := tk) (by have := X.toInCall.keep; rw [es] at this; exact this)
    refine S0.owned hle fun a e => ?_
    by_cases h : a = env.locals ∨ ∃ x, env.cells.lookup x = some a
    · refine .inr ⟨hmine a h, ?_⟩
      rcases h with e1 | ⟨x, e1⟩
      · obtain ⟨o, _, _, e2, _⟩ := X.toInCall.ns
        rw [e1]; exact ⟨o, e2⟩
      · obtain ⟨o, e2, _⟩ := X.cell x a e1
        exact ⟨o, e2⟩
    · exact .inl ((if_neg h).trans e)
  have R₁ : LR G.w W₁ true env bs.reverse s'.heap := by
    have hbr := (hb.mono hle.q).reverse
    refine ⟨⟨_, X.toInCall.ns, fun x v e1 e2 => ?_⟩, hmine _ (.inl rfl), fun x e => ?_, fun x y a e1 e2 => name_of_addr X.apart (mem_of_lookup e1) (mem_of_lookup e2), fun x a e1 e2 => ?_, fun x a e1 => ⟨⟨_, X.cell x a e1⟩, by unfold CellRole; rw [if_pos rfl]; exact hmine a (.inr ⟨x, e1⟩)⟩⟩
    · obtain ⟨y, hy, ry⟩ := hbr.look e2
      exact ⟨y, bindL_look _ _ e1 _ _ _ hy, ry⟩
    · have e1 : env.kindOf x = some .cell := by
        rcases e with e | e
        · exact e
        · exfalso
          rw [hkd] at e
          have := List.all_eq_true.mp F.free _ (mem_of_lookup e)
          simp at this
      have e2 : (env.cells.lookup x).isSome = true := by rw [hcs]; exact cellsFrom_some _ _ _ (.inl (by rw [← hkd]; exact e1))
      obtain ⟨a, ha⟩ := Option.isSome_iff_exists.mp e2
      refine ⟨a, _, ha, X.cell x a ha, by unfold CellRole; rw [if_pos rfl]; exact hmine a (.inr ⟨x, ha⟩), fun v hv => ?_⟩
      obtain ⟨y, hy, ry⟩ := hbr.look hv
      exact ⟨y, bindC_look _ _ (by rw [e1]; exact fun x => by cases x) _ _ _ hy, ry⟩
    · have := X.above x a (mem_of_lookup e1)
      rw [e2] at this; exact Nat.lt_irrefl _ this
  refine codeAny_func (wpAny_mono (h W₁ env s' _ _ hEnv hA.deeper ⟨S₁, R₁⟩ rfl) ?_ fun _ _ x => x.elim)
  rintro fv s₂ ⟨fl, σ₂, W₂, q, l₂, rf, S₂⟩
  let W₃ : Wd := fun a => match W₂ a with | .own => .out | r => r
  have w3 : ∀ a, W₂ a ≠ .own → W₃ a = W₂ a := fun a e => by show (match W₂ a with | .own => Role.out | r => r) = _; split <;> simp_all
  have w3o : ∀ a, W₂ a = .own → W₃ a = .out := fun a e => by show (match W₂ a with | .own => Role.out | r => r) = _; rw [e]
  have lq : Leq W₂ W₃ := ⟨fun a o e => by rw [w3 a (by rw [e]; exact fun x => by cases x)]; exact e, fun a o e => by rw [w3 a (by rw [e]; exact fun x => by cases x)]; exact e⟩
  have no3 : ∀ a, W₃ a ≠ .own := fun a e => by
    by_cases h : W₂ a = .own
    · rw [w3o a h] at e; cases e
    · rw [w3 a h] at e; exact h e
  have le3 : Le W W₃ := fun a e => by
    have e1 : W₂ a = W a := by rw [l₂ a (by rw [hle a e]; exact e), hle a e]
    rw [w3 a (by rw [e1]; exact hno a), e1]
  have S₃ : SimG G W₃ σ₂.sto s₂ := by
    refine ⟨S₂.1.sh, fun b x k => lq.1 b x (S₂.1.base b x k), fun b => ?_, fun x y i hx hy => ?_, fun x i hx => ?_⟩
    · by_cases e : W₂ b = .own
      · rw [w3o b e]; exact trivial
      · rw [w3 b e]; exact (S₂.1.at_ b).mono lq fun _ x => x
    · have key : ∀ z, W₃ z = .cell i → W₂ z = .cell i := fun z hz => by
        by_cases e : W₂ z = .own
        · rw [w3o z e] at hz; cases hz
        · rw [w3 z e] at hz; exact hz
      exact S₂.1.inj x y i (key x hx) (key y hy)
    · have key : ∀ z, W₃ z = .cell i → W₂ z = .cell i := fun z hz => by
        by_cases e : W₂ z = .own
        · rw [w3o z e] at hz; cases hz
        · rw [w3 z e] at hz; exact hz
      exact S₂.1.low x i (key x hx)
  refine ⟨_, _, σ₂.sto, W₃, rfl, q, le3, no3, ?_, S₃⟩
  cases rf with
  | next => exact .none
  | brk => exact .none
  | cont => exact .none
  | ret r => exact r.mono lq
section
open PySem.Spec
mutual
/-- plain data: what == compares item by item -/
def V.pd : V → PyData
  | .int i => .int i
  | .str x => .str x
  | .tup vs => .tuple (pds vs)
  | .lst vs => .list (pds vs)
  | _ => .none
def pds : List V → List PyData
  | [] => []
  | v :: vs => v.pd :: pds vs
end
def V.ok : Nat → V → Bool
  | _, .none => true
  | _, .int _ => true
  | _, .str x => PyData.strOk x
  | n + 1, .tup vs => vs.all (V.ok n)
  | n + 1, .lst vs => vs.all (V.ok n)
  | _, _ => false

theorem pd_lay : ∀ (n : Nat) (d : V), d.ok n = true → d.pd.canLay0 = true ∧ d.pd.depth ≤ n := by
  have all : ∀ (n : Nat), (∀ d : V, d.ok n = true → d.pd.canLay0 = true ∧ d.pd.depth ≤ n) → ∀ ds : List V, (∀ d ∈ ds, d.ok n = true) → PyData.canLayAll0 (pds ds) = true ∧ PyData.depthAll (pds ds) ≤ n := by
    intro n ih ds
    induction ds with
    | nil => intro _; simp [pds, PyData.canLayAll0, PyData.depthAll]
    | cons d ds hi =>
      intro h
      have h1 := ih d (h d (.head _))
      have h2 := hi fun e he => h e (.tail _ he)
      simp only [pds, PyData.canLayAll0, PyData.depthAll, h1.1, h2.1, Bool.and_self, true_and]
      have a1 := h1.2
      have a2 := h2.2
      omega
  intro n
  induction n with
  | zero =>
    intro d h
    cases d <;> simp_all [V.ok, V.pd, PyData.canLay0, PyData.depth]
  | succ n ih =>
    intro d h
    cases d with
    | none => simp [V.pd, PyData.canLay0, PyData.depth]
    | int i => simp [V.pd, PyData.canLay0, PyData.depth]
    | str x => simp [V.ok] at h; simp [V.pd, PyData.canLay0, PyData.depth, h]
    | tup ds =>
      have q := all n ih ds (by simpa [V.ok] using h)
      have q2 := q.2
      simp only [V.pd, PyData.canLay0, PyData.depth, q.1, true_and]
      omega
    | lst ds =>
      have q := all n ih ds (by simpa [V.ok] using h)
      have q2 := q.2
      simp only [V.pd, PyData.canLay0, PyData.depth, q.1, true_and]
      omega
    | _ => simp [V.ok] at h
theorem pd_eqv : ∀ (n : Nat) (d e : V) (k : Nat), d.ok n = true → e.ok k = true → (PyData.eqv d.pd e.pd = true ↔ d = e) := by
  have all : ∀ (n : Nat), (∀ (d e : V) (k : Nat), d.ok n = true → e.ok k = true → (PyData.eqv d.pd e.pd = true ↔ d = e)) → ∀ (k : Nat) (ds es : List V), (∀ d ∈ ds, d.ok n = true) → (∀ d ∈ es, d.ok k = true) →
      (PyData.eqvAll (pds ds) (pds es) = true ↔ ds = es) := by
    intro n ih k ds
    induction ds with
    | nil => intro es _ _; cases es <;> simp [pds, PyData.eqvAll]
    | cons d ds hi =>
      intro es h1 h2
      cases es with
      | nil => simp [pds, PyData.eqvAll]
      | cons e es =>
        have q1 := ih d e k (h1 d (.head _)) (h2 e (.head _))
        have q2 := hi es (fun x hx => h1 x (.tail _ hx)) fun x hx => h2 x (.tail _ hx)
        simp only [pds, PyData.eqvAll, Bool.and_eq_true, q1, q2, List.cons.injEq]
  intro n
  induction n with
  | zero =>
    intro d e k h1 h2
    cases d <;> cases e <;> cases k <;> simp_all [V.ok, V.pd, PyData.eqv]
  | succ n ih =>
    intro d e k h1 h2
    cases d with
    | tup ds =>
      cases e with
      | tup es =>
        cases k with
        | zero => simp [V.ok] at h2
        | succ k =>
          simp only [V.pd, PyData.eqv, V.tup.injEq]
          exact all n ih k ds es (by simpa [V.ok] using h1) (by simpa [V.ok] using h2)
      | _ => cases k <;> simp_all [V.ok, V.pd, PyData.eqv]
    | lst ds =>
      cases e with
      | lst es =>
        cases k with
        | zero => simp [V.ok] at h2
        | succ k =>
          simp only [V.pd, PyData.eqv, V.lst.injEq]
          exact all n ih k ds es (by simpa [V.ok] using h1) (by simpa [V.ok] using h2)
      | _ => cases k <;> simp_all [V.ok, V.pd, PyData.eqv]
    | _ => cases e <;> cases k <;> simp_all [V.ok, V.pd, PyData.eqv]

mutual
theorem VR.reads {w : World} {W : Wd} {h : Heap} (hf : ∀ a o, W a = .froz o → h.get? a = some o) : ∀ {v : V} {x : Value} (n : Nat), VR w W v x → v.ok n = true → ∃ as, Reads h x v.pd as
  | _, _, _, .none, _ => ⟨_, Reads.none⟩
  | _, _, n, .bool _, k => by cases n <;> simp [V.ok] at k
  | _, _, _, .int i t, _ => ⟨_, Reads.int i t⟩
  | _, _, _, .str i t, _ => ⟨_, Reads.str i t⟩
  | _, _, 0, .tup e r, k => by simp [V.ok] at k
  | _, _, n + 1, .tup e r, k => by
    obtain ⟨as, q⟩ := VRs.reads hf n r (by simpa [V.ok] using k)
    rw [V.pd]
    exact ⟨as, reads_tuple_at (hf _ _ e) rfl rfl q⟩
  | _, _, 0, .lst e a b r, k => by simp [V.ok] at k
  | _, _, n + 1, .lst e a b r, k => by
    obtain ⟨as, q⟩ := VRs.reads hf n r (by simpa [V.ok] using k)
    rw [V.pd]
    exact ⟨_, reads_list_at (hf _ _ e) a b q⟩
  | _, _, n, .dct _ _ _, k => by cases n <;> simp [V.ok] at k
  | _, _, n, .rng _, k => by cases n <;> simp [V.ok] at k
  | _, _, n, .ref _, k => by cases n <;> simp [V.ok] at k
  | _, _, n, .con _, k => by cases n <;> simp [V.ok] at k
theorem VRs.reads {w : World} {W : Wd} {h : Heap} (hf : ∀ a o, W a = .froz o → h.get? a = some o) : ∀ {v : List V} {x : List Value} (n : Nat), VRs w W v x → (∀ d ∈ v, d.ok n = true) → ∃ as, ReadsAll h x (pds v) as
  | _, _, _, .nil, _ => ⟨_, ReadsAll.nil⟩
  | _, _, n, .cons a b, k => by
    obtain ⟨as, q⟩ := VR.reads hf n a (k _ (.head _))
    obtain ⟨bs, p⟩ := VRs.reads hf n b fun d hm => k d (.tail _ hm)
    rw [pds]
    exact ⟨_, ReadsAll.cons q p⟩
end

theorem SimG.fz {G : Gl} {W : Wd} {sto : List MO} {s : Shared} (S : SimG G W sto s) : ∀ a o, W a = .froz o → s.heap.get? a = some o := fun a o e => by
  have q := S.at_ a; rw [e] at q; exact q

/-- the datum that a value stands for -/
def Rd (σ : St) (a d : V) : Prop := (a = d ∧ d.ok 8 = true) ∨ ∃ i vs, a = .ref i ∧ σ.sto[i]? = some (.list vs) ∧ d = .lst vs ∧ d.ok 8 = true
theorem Rd.ok {σ : St} {a d : V} (h : Rd σ a d) : d.ok 8 = true := by
  rcases h with ⟨_, h⟩ | ⟨_, _, _, _, _, h⟩ <;> exact h
theorem Rd.data {σ : St} {d : V} (h : d.ok 8 = true) : Rd σ d d := .inl ⟨rfl, h⟩
theorem Rd.reads {c : Cx} {W : Wd} {env : Env} {σ : St} {s : Shared} {a d : V} {x : Value} (h : Rd σ a d) (r : VR c.G.w W a x) (S : Sim c W env σ s) : ∃ as, Reads s.heap x d.pd as := by
  rcases h with ⟨rfl, h⟩ | ⟨i, vs, rfl, e, rfl, h⟩
  · exact r.reads S.1.fz 8 h
  · cases r with
    | @ref _ a e1 =>
      have q := S.1.at_ a
      rw [e1] at q
      obtain ⟨m, o, e2, e3, e4⟩ := q
      rw [e] at e2; cases e2
      cases e4 with
      | list r =>
        obtain ⟨as, q⟩ := r.reads S.1.fz 7 (by simpa [V.ok] using h)
        rw [V.pd]
        exact ⟨_, reads_list_at e3 rfl rfl q⟩
theorem shaped_of {d : V} (h : d.ok 8 = true) : SeqAt.shaped d.pd = true := by
  have l := pd_lay 8 d h
  unfold SeqAt.shaped
  rw [l.1, Bool.true_and]
  exact decide_eq_true (Nat.le_trans l.2 (by decide))

section
variable {c : Cx} {σ : St}
theorem Cmp_eq {a b d e : V} {Q : V → St → Prop} (ha : Rd σ a d) (hb : Rd σ b e) (h : ∀ r : Bool, (r = true ↔ d = e) → Q (.bool r) σ) : CmpV c .Eq a b σ Q := by
  intro W env s A m hE hA hS hT
  obtain ⟨x, y, hx, hy, rfl⟩ := hT
  obtain ⟨as, ra⟩ := ha.reads hx hS
  obtain ⟨bs, rb⟩ := hb.reads hy hS
  exact eq_dataH ra rb (shaped_of ha.ok) (shaped_of hb.ok) (by have := hA.2.2; show A.units + 64 < 9900; omega) ⟨_, σ, W, h _ (pd_eqv 8 d e 8 ha.ok hb.ok), Le.refl W, .bool _, hS⟩
theorem Cmp_ne {a b d e : V} {Q : V → St → Prop} (ha : Rd σ a d) (hb : Rd σ b e) (h : ∀ r : Bool, (r = true ↔ d ≠ e) → Q (.bool r) σ) : CmpV c .NotEq a b σ Q := by
  intro W env s A m hE hA hS hT
  obtain ⟨x, y, hx, hy, rfl⟩ := hT
  obtain ⟨as, ra⟩ := ha.reads hx hS
  obtain ⟨bs, rb⟩ := hb.reads hy hS
  refine ne_dataH ra rb (shaped_of ha.ok) (shaped_of hb.ok) (by have := hA.2.2; show A.units + 64 < 9900; omega) ⟨_, σ, W, h _ ?_, Le.refl W, .bool _, hS⟩
  have q := pd_eqv 8 d e 8 ha.ok hb.ok
  rw [ne_eq, ← q]; simp
theorem pd_any (n k : Nat) (e : V) (he : e.ok k = true) : ∀ vs : List V, (∀ v ∈ vs, v.ok n = true) → ((pds vs).any (fun y => PyData.eqv y e.pd) = true ↔ e ∈ vs)
  | [], _ => by simp [pds]
  | v :: vs, h => by
    have q := pd_any n k e he vs fun x hx => h x (.tail _ hx)
    have q1 := pd_eqv n v e k (h v (.head _)) he
    simp only [pds, List.any_cons, Bool.or_eq_true, q, q1, List.mem_cons]
    constructor
    · rintro (x | x)
      · exact .inl x.symm
      · exact .inr x
    · rintro (x | x)
      · exact .inl x.symm
      · exact .inr x
theorem Cmp_in {a b e : V} {vs : List V} {Q : V → St → Prop} (ha : Rd σ a e) (hb : Rd σ b (.lst vs)) (h : ∀ r : Bool, (r = true ↔ e ∈ vs) → Q (.bool r) σ) : CmpV c .In a b σ Q := by
  intro W env s A m hE hA hS hT
  obtain ⟨x, y, hx, hy, rfl⟩ := hT
  obtain ⟨as, ra⟩ := ha.reads hx hS
  obtain ⟨bs, rb⟩ := hb.reads hy hS
  have ok := hb.ok
  have l := pd_lay 8 _ ok
  have le := pd_lay 8 _ ha.ok
  rw [V.pd] at rb l
  simp only [PyData.canLay0] at l
  refine SeqAt.in_list_reads rb ra l.1 le.1 ?_ ⟨_, σ, W, h _ (pd_any 7 8 e ha.ok vs (by simpa [V.ok] using ok)), Le.refl W, .bool _, hS⟩
  have := hA.2.2
  have := Nat.min_le_right (PyData.depthAll (pds vs)) e.pd.depth
  have := le.2
  show A.units + 1 + _ < 9900
  omega
theorem Cmp_notIn {a b e : V} {vs : List V} {Q : V → St → Prop} (ha : Rd σ a e) (hb : Rd σ b (.lst vs)) (h : ∀ r : Bool, (r = true ↔ e ∉ vs) → Q (.bool r) σ) : CmpV c .NotIn a b σ Q := by
  intro W env s A m hE hA hS hT
  obtain ⟨x, y, hx, hy, rfl⟩ := hT
  obtain ⟨as, ra⟩ := ha.reads hx hS
  obtain ⟨bs, rb⟩ := hb.reads hy hS
  have ok := hb.ok
  have l := pd_lay 8 _ ok
  have le := pd_lay 8 _ ha.ok
  rw [V.pd] at rb l
  simp only [PyData.canLay0] at l
  refine SeqAt.notIn_list_reads rb ra l.1 le.1 ?_ ⟨_, σ, W, h _ ?_, Le.refl W, .bool _, hS⟩
  · have := hA.2.2
    have := Nat.min_le_right (PyData.depthAll (pds vs)) e.pd.depth
    have := le.2
    show A.units + 1 + _ < 9900
    omega
  · have q := pd_any 7 8 e ha.ok vs (by simpa [V.ok] using ok)
    rw [← q]; simp

/-! identity -/
theorem Is_none {a : V} {Q : V → St → Prop} (h : ∀ r : Bool, (r = true ↔ a = .none) → Q (.bool r) σ) (hc : ∀ v, a ≠ .con v) : CmpV c .Is a .none σ Q := by
  intro W env s A m hE hA hS hT
  obtain ⟨x, y, hx, hy, rfl⟩ := hT
  cases hy
  cases hx with
  | none => exact wpAny_is_self rfl ⟨_, σ, W, h true (by simp), Le.refl W, .bool _, hS⟩
  | con => exact absurd rfl (hc _)
  | _ => exact wpAny_is_other rfl (fun x => by cases x) ⟨_, σ, W, h false (by simp), Le.refl W, .bool _, hS⟩
/-- a value that no constant object is -/
def NotCon : V → Bool
  | .con _ => false
  | _ => true
theorem is_ref_other' {M : Model} {A : Around} {E : Value → Shared → Prop} {s : Shared} {Q : Value → Shared → Prop} {x y : Addr} {ox oy : Obj} (hxy : x ≠ y) (hx : s.heap.get? x = some ox) (hy : s.heap.get? y = some oy) (hnt : oy.cls = .type "object")
    (h : Q (.bool false) s) : wpAny M A (compareOp .Is (.ref x) (.ref y)) Q E s := by
  show wpAny M A (do return .bool (← isSame (.ref x) (.ref y))) Q E s
  refine wpAny_bind ?_
  show wpAny M A (if (x == y) = true then pure true else _) _ E s
  rw [if_neg (by simpa using hxy)]
  refine wpAny_bind (wpAny_load hx (wpAny_bind (wpAny_load hy ?_)))
  split
  · rename_i h2 _ _; rw [hnt] at h2; injection h2 with h2; exact absurd h2 (by decide)
  · exact wpAny_pure (wpAny_pure h)
theorem Is_obj {a : V} {m : Addr} {o : Obj} {Q : V → St → Prop} (hc : NotCon a = true) (hm : c.G.s0.heap.get? m = some o) (ho : o.cls = .type "object") (h : Q (.bool false) σ) : CmpV c .Is a (.con (.ref m)) σ Q := by
  intro W env s A _ hE hA hS hT
  obtain ⟨x, y, hx, hy, rfl⟩ := hT
  cases hy
  have hW := hS.1.base m o hm
  have key : ∀ b ob, s.heap.get? b = some ob → b ≠ m → wpAny (model c.G.prog c.G.w) A (compareOp .Is (.ref b) (.ref m)) (fun x s' => ∃ b σ' W', Q b σ' ∧ Le W W' ∧ VRc c W' b x ∧ Sim c W' env σ' s') (fun _ _ => False) s :=
    fun b ob e hne => is_ref_other' hne e (hS.1.fz _ _ hW) ho ⟨_, σ, W, h, Le.refl W, .bool _, hS⟩
  cases hx with
  | con => cases hc
  | @tup b xs n vs e r => exact key b _ (hS.1.fz _ _ e) (by rintro rfl; rw [hW] at e; injection e with e; rw [e] at ho; injection ho with ho; exact absurd ho (by decide))
  | @lst b ob xs n vs e e1 e2 r => exact key b _ (hS.1.fz _ _ e) (by rintro rfl; rw [hW] at e; injection e with e; rw [e, e1] at ho; injection ho with ho; exact absurd ho (by decide))
  | @dct b es n ds e lo r => exact key b _ (hS.1.fz _ _ e) (by rintro rfl; rw [hW] at e; injection e with e; rw [e] at ho; injection ho with ho; exact absurd ho (by decide))
  | @rng b x y z t u v e => exact key b _ (hS.1.fz _ _ e) (by rintro rfl; rw [hW] at e; injection e with e; rw [e] at ho; injection ho with ho; exact absurd ho (by decide))
  | @ref i b e =>
    have q := hS.1.at_ b
    rw [e] at q
    obtain ⟨_, ob, _, q, _⟩ := q
    exact key b _ q (by rintro rfl; rw [hW] at e; cases e)
  | _ => exact wpAny_is_other rfl (fun x => by cases x) ⟨_, σ, W, h, Le.refl W, .bool _, hS⟩
theorem Is_self {m : Addr} {Q : V → St → Prop} (h : Q (.bool true) σ) : CmpV c .Is (.con (.ref m)) (.con (.ref m)) σ Q := by
  intro W env s A _ hE hA hS hT
  obtain ⟨x, y, hx, hy, rfl⟩ := hT
  cases hx; cases hy
  exact wpAny_is_ref_self ⟨_, σ, W, h, Le.refl W, .bool _, hS⟩
end
end
/-- the end of a list's walk; the iterator's object stands -/
theorem list_stop {prog : Program} {w : World} {A : Around} {E : Value → Shared → Prop} {s : Shared} {it l : Addr} {i : Nat} {items : Array Value} {Q : Option Value → Shared → Prop} (hh : A.handled = none)
    (hit : s.heap.IsListIter it l i) (hl : s.heap.IsList l items) (hx : items[i]? = none)
    (hQ : ∀ h' o, Heap.ExtBut it s.heap h' → h'.get? it = some o → Q none { s with heap := h' }) : wpAny (model prog w) A (pyNext (.ref it)) Q E s := by
  obtain ⟨o, e1, e2, e3⟩ := id hit
  obtain ⟨ol, f1, _, nl, f2⟩ := hl
  unfold pyNext
  refine wpAny_bind (wpAny_attempt (wpAny_callSpecial?_slot (name := Str.ofString "__next__") hit.typeIs slot_listiter_next (wpAny_call_entry slot_listiter_next hit.typeIs entry_listiter_next ?_ (args_listiter_next _))))
  show wpAny _ _ (field (.ref it) 0 >>= _) _ _ s
  refine wpAny_bind (wpAny_field e1 e3 (x := .ref l) rfl ?_)
  show wpAny _ _ (if (Value.ref l == Value.none) = true then _ else _) _ _ s
  rw [if_neg (show ¬ ((Value.ref l == Value.none) = true) from Bool.false_ne_true)]
  show wpAny _ _ (field (.ref it) 1 >>= _) _ _ s
  refine wpAny_bind (wpAny_field e1 e3 (x := .int i 0) rfl ?_)
  show wpAny _ _ (seqItems? (.ref l) >>= _) _ _ s
  refine wpAny_bind (wpAny_seqItems f1 f2 ?_)
  simp only [Int.toNat_natCast, hx]
  refine wpAny_bind (wpAny_rule (wpAny_bind (wpAny_setField e1 e3 (by simp) ?_)))
  show wpAny _ _ (newExc (.type "StopIteration") [] >>= _) _ _ _
  refine wpAny_bind ?_
  simp only [newExc, newTuple]
  refine wpAny_bind (wpAny_newObj_type ?_ (by size_fits))
  refine wpAny_bind (m := firstArgMember _ _) (wpAny_of_eq (a := Value.none) (by first | rfl | (simp only [firstArgMember]; rfl)) ?_)
  refine wpAny_newObj_type ?_ (by size_fits)
  simp only [raiseNew]
  refine wpAny_bind (wpAny_handled ?_)
  rw [show A.in1.handled = none from hh]
  refine wpAny_bind (wpAny_pure (wpAny_throw ?_))
  refine wpAny_bind (wpAny_isInstance (T := "StopIteration") (b := true) ⟨_, Heap.get?_push_size _ rfl, rfl⟩ isSubtype_stop ?_)
  refine wpAny_pure (hQ _ _ (((Heap.SameBut.update ..).extBut.push _).push _) (Heap.get?_push_of_some _ (Heap.get?_push_of_some _ (Heap.get?_update_self _ e1 ?_))))
  exact Obj.isFreed_of_fields (Obj.data_mapFields e3 _)
/-- next's own look -/
theorem list_special {prog : Program} {w : World} {A : Around} {E : Value → Shared → Prop} {s : Shared} {it l : Addr} {i : Nat} {items : Array Value} {x : Value} {Q : Option Value → Shared → Prop}
    (hit : s.heap.IsListIter it l i) (hl : s.heap.IsList l items) (hx : items[i]? = some x)
    (hQ : ∀ h', h'.IsListIter it l (i + 1) → Heap.SameBut it s.heap h' → Q (some x) { s with heap := h' }) : wpAny (model prog w) A (callSpecial? (.ref it) (Str.ofString "__next__")) Q E s := by
  obtain ⟨o, e1, e2, e3⟩ := id hit
  obtain ⟨ol, f1, _, nl, f2⟩ := hl
  refine wpAny_callSpecial?_slot (name := Str.ofString "__next__") hit.typeIs slot_listiter_next (wpAny_call_entry slot_listiter_next hit.typeIs entry_listiter_next ?_ (args_listiter_next _))
  show wpAny _ _ (field (.ref it) 0 >>= _) _ _ s
  refine wpAny_bind (wpAny_field e1 e3 (x := .ref l) rfl ?_)
  show wpAny _ _ (if (Value.ref l == Value.none) = true then _ else _) _ _ s
  rw [if_neg (show ¬ ((Value.ref l == Value.none) = true) from Bool.false_ne_true)]
  show wpAny _ _ (field (.ref it) 1 >>= _) _ _ s
  refine wpAny_bind (wpAny_field e1 e3 (x := .int i 0) rfl ?_)
  show wpAny _ _ (seqItems? (.ref l) >>= _) _ _ s
  refine wpAny_bind (wpAny_seqItems f1 f2 ?_)
  simp only [Int.toNat_natCast, hx]
  refine wpAny_bind (wpAny_setField e1 e3 (by simp) (wpAny_pure ⟨x, rfl, hQ _ ⟨_, Heap.get?_update_self _ e1 (Obj.isFreed_of_fields (Obj.data_mapFields e3 _)), (Obj.cls_mapFields ..).trans e2, ?_⟩ (Heap.SameBut.update ..)⟩))
  rw [Obj.data_mapFields e3]; simp [rawInt]

section
variable {c : Cx} {σ : St} {loc : List (Str × V)} {sto : List MO}
/-- iter(..) of a list: a new iterator -/
theorem Call_iter {a : V} {vs : List V} {Q : V → St → Prop} (ha : ListV ⟨loc, sto⟩ a vs) (h : Q (.ref sto.length) ⟨loc, sto ++ [.iter a 0]⟩) : CallV c (.builtin "iter") [a] ⟨loc, sto⟩ Q := by
  intro W env s A m hE hA hS hT
  obtain ⟨xs, hx, rfl⟩ := hT
  obtain ⟨x, rfl, r⟩ := one_of hx
  obtain ⟨l, xs, rfl, hl, rl⟩ := ha.get r hS
  refine Calls.call_function_entry (by decide +kernel) (by decide +kernel) kdk_entry_iter (kdk_args_iter _) ?_
  unfold Builtin.«iter»
  refine wpAny_bind (m := someArgs "iter" 1 2 _) (wpAny_of_eq (a := [Value.ref l]) (by first | rfl | kernel_rfl!) ?_)
  show wpAny _ _ (pyIter (.ref l) >>= _) _ _ _
  refine wpAny_bind (wpAny_pyIter_list hl ?_)
  obtain ⟨S₂, l₂⟩ := Sim.newCell (o := litO (.ref l) (.int 0 0)) (m := .iter a 0) hS rfl (.iter rfl rfl r)
  exact wpAny_pure ⟨_, rfl, _, _, _, h, l₂, .ref (Wd.put_self _ _ _), S₂⟩
/-- .. of an iterator: itself -/
theorem Call_iterI {j : Nat} {v : V} {k : Nat} {vs : List V} {Q : V → St → Prop} (hj : sto[j]? = some (.iter v k)) (hv : ListV ⟨loc, sto⟩ v vs) (h : Q (.ref j) ⟨loc, sto⟩) : CallV c (.builtin "iter") [.ref j] ⟨loc, sto⟩ Q := by
  intro W env s A m hE hA hS hT
  obtain ⟨xs, hx, rfl⟩ := hT
  obtain ⟨x, rfl, r⟩ := one_of hx
  cases r with
  | @ref _ a e1 =>
    have q := hS.1.at_ a
    rw [e1] at q
    obtain ⟨m, o, e2, e3, e4⟩ := q
    rw [hj] at e2; cases e2
    cases e4 with
    | @iter _ x _ _ f1 f2 r =>
      obtain ⟨l, xs, rfl, hl, rl⟩ := hv.get r hS
      refine Calls.call_function_entry (by decide +kernel) (by decide +kernel) kdk_entry_iter (kdk_args_iter _) ?_
      unfold Builtin.«iter»
      refine wpAny_bind (m := someArgs "iter" 1 2 _) (wpAny_of_eq (a := [Value.ref a]) (by first | rfl | kernel_rfl!) ?_)
      show wpAny _ _ (pyIter (.ref a) >>= _) _ _ _
      exact wpAny_bind (wpAny_pyIter_listiter ⟨o, e3, f1, f2⟩ (wpAny_pure ⟨_, rfl, _, _, W, h, Le.refl W, .ref e1, hS⟩))
/-- next(..) where an item is left -/
theorem Call_next {j : Nat} {v : V} {k : Nat} {vs : List V} {u : V} {Q : V → St → Prop} (hj : sto[j]? = some (.iter v k)) (hv : ListV ⟨loc, sto⟩ v vs) (hu : vs[k]? = some u) (h : Q u ⟨loc, sto.set j (.iter v (k + 1))⟩) : CallV c (.builtin "next") [.ref j] ⟨loc, sto⟩ Q := by
  intro W env s A m hE hA hS hT
  obtain ⟨xs, hx, rfl⟩ := hT
  obtain ⟨x, rfl, r⟩ := one_of hx
  cases r with
  | @ref _ a e1 =>
    have q := hS.1.at_ a
    rw [e1] at q
    obtain ⟨m, o, e2, e3, e4⟩ := q
    rw [hj] at e2; cases e2
    cases e4 with
    | @iter _ x _ _ f1 f2 r =>
      obtain ⟨l, xs, rfl, hl, rl⟩ := hv.get r hS
      obtain ⟨y, hy, ry⟩ := rl.get hu
      have hit : s.heap.IsListIter a l k := ⟨o, e3, f1, f2⟩
      refine Calls.call_function_entry (by decide +kernel) (by decide +kernel) kdk_entry_next (kdk_args_next _) ?_
      unfold Builtin.«next»
      refine wpAny_bind (m := someArgs "next" 1 2 _) (wpAny_of_eq (a := [Value.ref a]) (by first | rfl | kernel_rfl!) ?_)
      dsimp only
      refine wpAny_bind (wpAny_specialOf (name := Str.ofString "__next__") hit.typeIs slot_listiter_next.lookup ?_)
      refine wpAny_ite_split (fun hab => absurd hab (by decide)) (fun _ => ?_)
      refine wpAny_bind (list_special hit hl (by rw [← Array.getElem?_toList]; exact hy) fun h' hit' hs => ?_)
      obtain ⟨o', g1, g2, g3⟩ := hit'
      exact wpAny_pure ⟨_, rfl, u, _, W, h, Le.refl W, ry, hS.set (tk := s.toks) e1 hs g1 (.iter g2 g3 r)⟩

/-- a try whose body raises nothing -/
theorem Ex_try {body orelse : List Stmt} {h₀ : ExceptHandler} {hs : List ExceptHandler} {pos : Pos} {Q : Fl → St → Prop} (h : Exs c body σ (Then c orelse Q)) : Ex c (.Try body (h₀ :: hs) orelse [] pos) σ Q := by
  intro W env s A m hE hA hS hT
  subst hT
  refine wpAny_Try_except (wpAny_mono (seq1 (k := fun f s₁ => match f with | .next => wpAny (model c.G.prog c.G.w) A (execs orelse env) (fun x s' => ∃ b σ' W', Q b σ' ∧ Le W W' ∧ FR c.G.w W' b x ∧ Sim c W' env σ' s') (fun _ _ => False) s₁ | f => ∃ b σ' W', Q b σ' ∧ Le W W' ∧ FR c.G.w W' b f ∧ Sim c W' env σ' s₁) (E := fun _ _ => False) h hE hA hS rfl fun f σ₁ W₁ x s₁ h₁ l₁ r₁ S₁ => ?_) (fun _ _ x => x) fun _ _ x => x.elim)
  cases r₁ with
  | next => exact seq1 (T := fun _ env m => m = execs orelse env) h₁ hE hA S₁ rfl fun v σ₃ W₃ z s₃ q l₃ r₃ S₃ => ⟨v, σ₃, W₃, q, l₁.trans l₃, r₃, S₃⟩
  | brk => exact ⟨.brk, σ₁, W₁, h₁, l₁, .brk, S₁⟩
  | cont => exact ⟨.cont, σ₁, W₁, h₁, l₁, .cont, S₁⟩
  | ret r => exact ⟨.ret _, σ₁, W₁, h₁, l₁, .ret r, S₁⟩

/-- a for over an iterator of the store -/
theorem Ex_forI {target iter : Expr} {body orelse : List Stmt} {pos : Pos} {Q : Fl → St → Prop} (J : Nat → St → Prop) (meas : Nat → St → Nat) (hf : ∀ env x, foldedSetIterable iter env x = pure x)
    (h : Ev c iter σ fun a σ₁ => ∃ j v₀ k₀, a = .ref j ∧ J k₀ σ₁ ∧ (∀ k σ', J k σ' → σ'.sto[j]? = some (.iter v₀ k) ∧ ∃ vs, ListV σ' v₀ vs ∧
      (∀ v, vs[k]? = some v → Asg c target v ⟨σ'.loc, σ'.sto.set j (.iter v₀ (k + 1))⟩ fun _ σ₂ => Exs c body σ₂ (Turn (fun σ'' => J (k + 1) σ'' ∧ meas (k + 1) σ'' < meas k σ') Q)) ∧
      (vs.length ≤ k → Exs c orelse ⟨σ'.loc, σ'.sto.set j .junk⟩ Q))) :
    Ex c (.For target iter body orelse pos) σ Q := by
  intro W env s A m hE hA hS hT
  subst hT
  refine wpAny_For (seq1 h hE hA hS rfl fun a σ₁ W₁ x s₁ h₁ l₁ r₁ S₁ => ?_) (hf env)
  obtain ⟨j, v₀, k₀, rfl, hJ, hgo⟩ := h₁
  have parts : ∀ (W' : Wd) (s' : Shared) (k : Nat) (σ' : St) (I : Addr), W' I = .cell j → Sim c W' env σ' s' → σ'.sto[j]? = some (.iter v₀ k) → ∃ o x, s'.heap.get? I = some o ∧ o.cls = .type "list_iterator" ∧ o.data = .fields #[x, .int k 0] ∧ VR c.G.w W' v₀ x := by
    intro W' s' k σ' I hI S' hj
    have q := S'.1.at_ I
    rw [hI] at q
    obtain ⟨m, o, e2, e3, e4⟩ := q
    rw [hj] at e2; cases e2
    cases e4 with
    | iter f1 f2 r => exact ⟨o, _, e3, f1, f2, r⟩
  cases r₁ with
  | @ref _ I hI =>
    obtain ⟨hj0, vs0, hv0, _⟩ := hgo k₀ σ₁ hJ
    obtain ⟨o0, x0, e0, c0, d0, r0⟩ := parts W₁ s₁ k₀ σ₁ I hI S₁ hj0
    obtain ⟨l0, xs0, rfl, hl0, rl0⟩ := hv0.get r0 S₁
    refine wpAny_pyIter_listiter ⟨o0, e0, c0, d0⟩ ?_
    refine codeAny_forLoop_any (fun n s' => ∃ k σ' W', n = meas k σ' ∧ J k σ' ∧ Le W₁ W' ∧ Sim c W' env σ' s') ?_ (meas k₀ σ₁) ⟨k₀, σ₁, W₁, rfl, hJ, Le.refl _, S₁⟩
    rintro n s' ⟨k, σ', W', rfl, hJk, hle, S'⟩
    obtain ⟨hj, vs, hv, hitem, hend⟩ := hgo k σ' hJk
    have hI' : W' I = .cell j := hle.q.2 _ _ hI
    obtain ⟨o, x, e1, c1, d1, r1⟩ := parts W' s' k σ' I hI' S' hj
    obtain ⟨l, xs, rfl, hl, rl⟩ := hv.get r1 S'
    have hlen := rl.length
    rw [Array.length_toList] at hlen
    have hit : s'.heap.IsListIter I l k := ⟨o, e1, c1, d1⟩
    cases hx : xs[k]? with
    | none =>
      refine list_stop hA.1 hit hl hx fun h' o' he ho' => ?_
      have S'' : Sim c W' env ⟨σ'.loc, σ'.sto.set j .junk⟩ { s' with heap := h' } := by
        have base : ∀ b x, b ≠ I → s'.heap.get? b = some x → h'.get? b = some x := fun b x hb e => he b x hb e
        refine ⟨⟨let ⟨_, _, e⟩ := S'.1.sh; ⟨h', s'.toks, by rw [e]⟩, S'.1.base, fun b => ?_, S'.1.inj, S'.1.low⟩, S'.2.keeps (Leq.refl W') (fun _ e => e) (fun _ _ e => e) fun b o hb e => base b o (by rintro rfl; rw [hI'] at hb; rcases hb with hb | ⟨_, hb⟩ <;> cases hb) e⟩
        by_cases hb : b = I
        · subst hb
          rw [hI']
          exact ⟨.junk, o', by rw [List.getElem?_set_self (List.getElem?_eq_some_iff.mp hj).1], ho', .junk _⟩
        · have q := (S'.1.at_ b).mono (Leq.refl W') (h' := h') (fun o x => base b o hb x)
          revert q
          cases e' : W' b with
          | cell i =>
            rintro ⟨m, o, f1, f2, f3⟩
            refine ⟨m, o, ?_, f2, f3⟩
            rw [List.getElem?_set_ne]
            · exact f1
            · rintro rfl; exact hb (S'.1.inj _ _ _ e' hI')
          | _ => exact id
      have hk : vs.length ≤ k := by rw [Array.getElem?_eq_none_iff] at hx; omega
      dsimp only
      exact seq1 (hend hk) hE hA S'' rfl fun f σ₃ W₃ fv s₄ h₃ l₃ r₃ S₄ => ⟨f, σ₃, W₃, h₃, (l₁.trans hle).trans l₃, r₃, S₄⟩
    | some x =>
      have hx' : xs.toList[k]? = some x := by rw [Array.getElem?_toList]; exact hx
      have hb := (List.getElem?_eq_some_iff.mp hx').1
      rw [rl.length] at hb
      obtain ⟨y, hy, ry⟩ := rl.get (List.getElem?_eq_getElem hb)
      rw [hx'] at hy; cases hy
      refine wpAny_pyNext_list_item hit hl hx fun h' hit' hs => ?_
      obtain ⟨o', g1, g2, g3⟩ := hit'
      have S'' : Sim c W' env ⟨σ'.loc, σ'.sto.set j (.iter v₀ (k + 1))⟩ { s' with heap := h' } := Sim.set (loc := σ'.loc) (sto := σ'.sto) (tk := s'.toks) S' hI' hs g1 (.iter g2 g3 r1)
      dsimp only
      refine let_go (o := o') g1 g2 (by decide) ?_
      refine seq1 (hitem _ (List.getElem?_eq_getElem hb)) hE hA S'' ⟨x, ry, rfl⟩ fun _ σ₂ W₂ _ s₃ h₂ l₂ _ S₃ => ?_
      refine seq1 h₂ hE hA S₃ rfl fun f σ₃ W₃ fv s₄ h₃ l₃ r₃ S₄ => ?_
      have lw := (hle.trans l₂).trans l₃
      have goon : ∀ l, Sub l σ₃.loc → J (k + 1) ⟨l, σ₃.sto⟩ ∧ meas (k + 1) ⟨l, σ₃.sto⟩ < meas k σ' → ∃ m, m < meas k σ' ∧ ∃ k' σ' W', m = meas k' σ' ∧ J k' σ' ∧ Le W₁ W' ∧ Sim c W' env σ' s₄ :=
        fun l hl ⟨hj, hm⟩ => ⟨_, hm, k + 1, ⟨l, σ₃.sto⟩, W₃, rfl, hj, lw, S₄.sub hl⟩
      cases r₃ with
      | next => obtain ⟨l, hl, hj⟩ := h₃; exact goon l hl hj
      | cont => obtain ⟨l, hl, hj⟩ := h₃; exact goon l hl hj
      | brk => exact ⟨.next, σ₃, W₃, h₃, l₁.trans lw, .next, S₄⟩
      | ret r => exact ⟨.ret _, σ₃, W₃, h₃, l₁.trans lw, .ret r, S₄⟩

/-! methods of a list of the store -/
theorem plain_args {env : Env} {pos : Pos} : ∀ es : List Expr, es.any isStarred = false → ((backTo pos (starEach es env)).any (·.1)) = false
  | [], _ => rfl
  | e :: es, he => by
    rw [List.any_cons, Bool.or_eq_false_iff] at he
    have e1 : starEach (e :: es) env = (false, eval e env) :: starEach es env := by cases e <;> first | rfl | cases he.1
    rw [e1]
    show (false || (backTo pos (starEach es env)).any (·.1)) = false
    rw [plain_args es he.2]; rfl
theorem plain_few {env : Env} {pos : Pos} {args : List Expr} (hst : args.any isStarred = false) (hlen : args.length < 20) : ((backTo pos (starEach args env)).all (fun x => !x.1) && (backToKw pos (keywordEach [] env)).all (fun x => x.1.isSome)
      && decide (args.length + ([] : List Keyword).length + (if ([] : List Keyword).isEmpty then 0 else 1) < 30)) = true := by
  rw [Bool.and_eq_true, Bool.and_eq_true]
  refine ⟨⟨?_, rfl⟩, ?_⟩
  · rw [List.all_eq_true]
    intro y hy
    have := List.any_eq_false.mp (plain_args args hst) y hy
    simpa using this
  · exact decide_eq_true (by show args.length + 0 + 0 < 30; omega)
/-- a list of the store, or one known to be plain -/
theorem list_obj {W : Wd} {env : Env} {s : Shared} {σ : St} {i : Nat} {vs : List V} {x : Value} (hi : σ.sto[i]? = some (.list vs)) (r : VR c.G.w W (.ref i) x) (S : Sim c W env σ s) : s.TypeIs x "list" ∧ ∀ a, x = .ref a → ∃ ob, s.heap.get? a = some ob ∧ ob.dict = none := by
  cases r with
  | @ref _ a e1 =>
    have q := S.1.at_ a
    rw [e1] at q
    obtain ⟨mo, ob, e2, e3, e4⟩ := q
    rw [hi] at e2; cases e2
    cases e4 with
    | list r => exact ⟨⟨_, e3, rfl⟩, fun b hb => by injection hb with hb; subst hb; exact ⟨_, e3, rfl⟩⟩
theorem Ev_meth {o e : Expr} {es : List Expr} {name : Str} {apos pos : Pos} {id : String} {Q : V → St → Prop} (hbase : ∀ env, attributeBase o name env (eval o env) = eval o env) (hlen : (e :: es).length < 20) (hst : (e :: es).any isStarred = false) (hline : (apos.endLine == pos.line) = true)
    (slot : Slot "list" name id) (hty : typeOf (.builtin id) = pure (.type "method_descriptor"))
    (h : Ev c o σ fun ov σ₁ => (∃ i vs, ov = .ref i ∧ σ₁.sto[i]? = some (.list vs)) ∧ Evs c (e :: es) σ₁ fun vs σ₂ => CallV c (.builtin id) (ov :: vs) σ₂ Q) : Ev c (.Call (.Attribute o name apos) (e :: es) [] pos) σ Q := by
  intro W env s A m hE hA hS hT
  subst hT
  refine wpAny_Call_method (T := "list") (id := id) (hbase env) (plain_few hst hlen) hline PySem.F.plainAttrs_list slot hty (seq1 h hE hA hS rfl fun ov σ₁ W₁ x s₁ h₁ l₁ r₁ S₁ => ?_)
  obtain ⟨⟨i, vs, rfl, hi⟩, h₁⟩ := h₁
  obtain ⟨t1, t2⟩ := list_obj hi r₁ S₁
  refine ⟨t1, t2, ?_⟩
  refine callWith_of (P := fun h => ∀ a o, c.G.s0.heap.get? a = some o → h.get? a = some o) (by rw [plain_args _ hst]; rfl) (fun _ _ => ⟨.machine, .inr (.inl rfl), Looks.now⟩) ?_
  have he := hst
  rw [List.any_cons, Bool.or_eq_false_iff] at he
  have e1 : starEach (e :: es) env = (false, eval e env) :: starEach es env := by cases e <;> first | rfl | cases he.1
  have h₂ := h₁ W₁ env s₁ A _ hE hA S₁ ⟨pos, rfl⟩
  rw [e1] at h₂ ⊢
  refine Calls.evalArgs_plain (x := eval e env) (rest := backTo pos (starEach es env)) (wpAny_mono h₂ ?_ fun _ _ x => x.elim)
  rintro xs s₂ ⟨us, σ₂, W₂, h₃, l₂, r₂, S₂⟩
  refine ⟨base_keeps S₂.1, seq1 h₃ hE hA S₂ ⟨x :: xs, .cons (r₁.mono l₂.q) r₂.1, rfl⟩ fun v σ₃ W₃ z s₃ q l₃ r₃ S₃ => ⟨v, σ₃, W₃, q, (l₁.trans l₂).trans l₃, r₃, S₃⟩⟩
theorem Ev_meth0 {o : Expr} {name : Str} {apos pos : Pos} {id : String} {Q : V → St → Prop} (hbase : ∀ env, attributeBase o name env (eval o env) = eval o env) (hline : (apos.endLine == pos.line) = true)
    (slot : Slot "list" name id) (hty : typeOf (.builtin id) = pure (.type "method_descriptor"))
    (h : Ev c o σ fun ov σ₁ => (∃ i vs, ov = .ref i ∧ σ₁.sto[i]? = some (.list vs)) ∧ CallV c (.builtin id) [ov] σ₁ Q) : Ev c (.Call (.Attribute o name apos) [] [] pos) σ Q := by
  intro W env s A m hE hA hS hT
  subst hT
  refine wpAny_Call_method (T := "list") (id := id) (hbase env) rfl hline PySem.F.plainAttrs_list slot hty (seq1 h hE hA hS rfl fun ov σ₁ W₁ x s₁ h₁ l₁ r₁ S₁ => ?_)
  obtain ⟨⟨i, vs, rfl, hi⟩, h₁⟩ := h₁
  obtain ⟨t1, t2⟩ := list_obj hi r₁ S₁
  refine ⟨t1, t2, ?_⟩
  refine callWith_of (P := fun h => ∀ a o, c.G.s0.heap.get? a = some o → h.get? a = some o) rfl (fun _ _ => ⟨.machine, .inr (.inl rfl), Looks.now⟩) (evalArgs_nil3 ⟨base_keeps S₁.1, ?_⟩)
  exact seq1 h₁ hE hA S₁ ⟨[x], .one r₁, rfl⟩ fun v σ₃ W₃ z s₃ q l₃ r₃ S₃ => ⟨v, σ₃, W₃, q, l₁.trans l₃, r₃, S₃⟩
theorem Call_append {i : Nat} {vs : List V} {v : V} {Q : V → St → Prop} (hi : sto[i]? = some (.list vs)) (hz : vs.length < 1000000) (h : Q .none ⟨loc, sto.set i (.list (vs ++ [v]))⟩) : CallV c (.builtin "list.append") [.ref i, v] ⟨loc, sto⟩ Q := by
  intro W env s A m hE hA hS hT
  obtain ⟨xs, hx, rfl⟩ := hT
  obtain ⟨x, y, rfl, r, r'⟩ := two_of hx
  cases r with
  | @ref _ a e1 => exact append_meth hS e1 hi hz r' fun s' S' => ⟨.none, _, W, h, Le.refl W, .none, S'⟩
end
/-- the block's scope under the frame's -/
def relS (scope out : Scope) : Scope :=
  { scope with names := scope.names.map fun (n, k) => if (k == .free && out.kind == .function && out.names.lookup n == some .cell) then (n, .cell) else (n, k) }
theorem relS_eq (scope : Scope) (env : Env) : relabel scope env = relS scope env.scope := rfl

theorem lookup_mapv {α β : Type} (f : Str → α → β) (y : Str) : ∀ l : List (Str × α), (l.map fun p => (p.1, f p.1 p.2)).lookup y = (l.lookup y).map (f y)
  | [] => rfl
  | (n, k) :: r => by
    rw [List.map_cons]
    by_cases h : y = n
    · subst h; rw [lookup_cons_self, lookup_cons_self]; rfl
    · rw [lookup_cons_ne _ _ h, lookup_cons_ne _ _ h]; exact lookup_mapv f y r
theorem relS_look (scope out : Scope) (y : Str) : (relS scope out).names.lookup y = (scope.names.lookup y).map fun k => if (k == .free && out.kind == .function && out.names.lookup y == some .cell) then .cell else k := by
  have e : (relS scope out).names = scope.names.map fun p => (p.1, (fun (n : Str) (k : NameKind) => if (k == .free && out.kind == .function && out.names.lookup n == some .cell) then NameKind.cell else k) p.1 p.2) := by
    unfold relS
    refine List.map_congr_left fun p _ => ?_
    obtain ⟨n, k⟩ := p
    dsimp only
    split <;> rfl
  rw [e]
  exact lookup_mapv (fun n k => if (k == .free && out.kind == .function && out.names.lookup n == some .cell) then NameKind.cell else k) y _

/-- the tests of a block -/
def Tests (c : Cx) (ifs : List Expr) (σ : St) (Q : Bool → St → Prop) : Prop :=
  DoG c σ (fun _ b x => b = x) (fun _ env m => m = forIn ifs true fun c r => if r = true then do let ok ← isTrue c env (eval c env); pure (ForInStep.yield ok) else pure (ForInStep.yield r)) Q

section
variable {c : Cx} {σ : St}
theorem Tests_nil {Q : Bool → St → Prop} (h : Q true σ) : Tests c [] σ Q := by
  intro W env s A m hE hA hS hT
  subst hT
  exact wpAny_tests_nil ⟨true, σ, W, h, Le.refl W, rfl, hS⟩
theorem Tests_one {e : Expr} {Q : Bool → St → Prop} (h : Tst c e σ Q) : Tests c [e] σ Q := by
  intro W env s A m hE hA hS hT
  subst hT
  exact wpAny_tests_one (h W env s A _ hE hA hS rfl)

theorem clos_eq (env : Env) : ∀ (names : List (Str × NameKind)) (acc : List (Str × Addr)), (∀ n, (n, NameKind.free) ∈ names → ∃ a, env.cells.lookup n = some a) →
    ∃ cl, (forIn names acc fun (x : Str × NameKind) (cs : List (Str × Addr)) => (if (x.2 == .free) = true then do let a ← cellOf env x.1; pure (ForInStep.yield ((x.1, a) :: cs)) else pure (ForInStep.yield cs) : Sem _)) = pure cl ∧
      (∀ n a, cl.lookup n = some a → acc.lookup n = some a ∨ env.cells.lookup n = some a) ∧ (∀ n, ((n, NameKind.free) ∈ names ∨ (acc.lookup n).isSome = true) → (cl.lookup n).isSome = true)
  | [], acc, _ => ⟨acc, rfl, fun _ _ h => .inl h, fun n h => h.elim (fun x => nomatch x) id⟩
  | (n, k) :: r, acc, h => by
    by_cases hk : (k == NameKind.free) = true
    · obtain ⟨a, ha⟩ := h n (by rw [beq_iff_eq] at hk; rw [hk]; exact .head _)
      obtain ⟨cl, e, h1, h2⟩ := clos_eq env r ((n, a) :: acc) fun m hm => h m (.tail _ hm)
      refine ⟨cl, ?_, fun m b hb => ?_, fun m hm => h2 m ?_⟩
      · rw [List.forIn_cons]
        simp only [hk, if_true]
        have : cellOf env n = pure a := by unfold cellOf; rw [ha]
        rw [this, pure_bind, pure_bind]
        exact e
      · rcases h1 m b hb with h | h
        · by_cases hm : m = n
          · subst hm
            rw [lookup_cons_self] at h; cases h
            exact .inr ha
          · rw [lookup_cons_ne _ _ hm] at h; exact .inl h
        · exact .inr h
      · rcases hm with hm | hm
        · rcases List.mem_cons.mp hm with e | hm
          · cases e; exact .inr (by rw [lookup_cons_self]; rfl)
          · exact .inl hm
        · refine .inr ?_
          by_cases hmn : m = n
          · subst hmn; rw [lookup_cons_self]; rfl
          · rw [lookup_cons_ne _ _ hmn]; exact hm
    · obtain ⟨cl, e, h1, h2⟩ := clos_eq env r acc fun m hm => h m (.tail _ hm)
      refine ⟨cl, ?_, h1, fun m hm => h2 m ?_⟩
      · rw [List.forIn_cons]
        simp only [hk, Bool.false_eq_true, if_false]
        rw [pure_bind]
        exact e
      · rcases hm with hm | hm
        · rcases List.mem_cons.mp hm with e | hm
          · cases e; exact absurd rfl hk
          · exact .inl hm
        · exact .inr hm
theorem closure_eq {scope : Scope} {env : Env} (h : ∀ n, (n, NameKind.free) ∈ scope.names → ∃ a, env.cells.lookup n = some a) :
    ∃ cl, closureFor scope env = pure cl ∧ (∀ n a, cl.lookup n = some a → env.cells.lookup n = some a) ∧ ∀ n, (n, NameKind.free) ∈ scope.names → (cl.lookup n).isSome = true := by
  obtain ⟨cl, e, h1, h2⟩ := clos_eq env scope.names [] h
  refine ⟨cl, ?_, fun n a hn => (h1 n a hn).elim (fun x => by simp at x) id, fun n hn => h2 n (.inl hn)⟩
  unfold closureFor
  show (forIn scope.names [] _ >>= fun cs => pure cs) = pure cl
  rw [show (forIn scope.names ([] : List (Str × Addr)) fun (x : Str × NameKind) (cs : List (Str × Addr)) => (if (x.2 == .free) = true then do let a ← cellOf env x.1; pure (ForInStep.yield ((x.1, a) :: cs)) else pure (ForInStep.yield cs) : Sem _)) = pure cl from e]
  rfl

/-- a guarded object is let go -/
theorem Sim.dropO {W : Wd} {env : Env} {s : Shared} {a : Addr} {o : Obj} {h' : Heap} {tk : Nat} (S : Sim c W env σ s) (h : W a = .prot o) (hn : ∀ v, o.data ≠ .cell v) (hs : ∀ b x, b ≠ a → s.heap.get? b = some x → h'.get? b = some x) :
    Sim c (W.put a .out) env σ { s with heap := h', toks := tk } := by
  refine ⟨S.1.drop h hs, S.2.turn h (fun b vo hc => ?_) hs⟩
  rintro rfl
  obtain ⟨ob, e1, e2⟩ := hc
  have q := S.1.at_ b
  rw [h] at q
  rw [show s.heap.get? b = some o from q] at e1
  cases e1
  exact hn _ e2
theorem Sim.turnO {W : Wd} {env : Env} {s : Shared} {a : Addr} {o o' : Obj} {h' : Heap} {tk : Nat} (S : Sim c W env σ s) (h : W a = .prot o) (hn : ∀ v, o.data ≠ .cell v) (hs : ∀ b x, b ≠ a → s.heap.get? b = some x → h'.get? b = some x) (e : h'.get? a = some o') :
    Sim c (W.put a (.prot o')) env σ { s with heap := h', toks := tk } := by
  refine ⟨S.1.turn h hs e, S.2.turn h (fun b vo hc => ?_) hs⟩
  rintro rfl
  obtain ⟨ob, e1, e2⟩ := hc
  have q := S.1.at_ b
  rw [h] at q
  rw [show s.heap.get? b = some o from q] at e1
  cases e1
  exact hn _ e2
theorem Le.putT {W W' : Wd} {a : Addr} {r : Role} (h : Le W W') (e : W a = .out) : Le W (W'.put a r) := fun b hb => by
  rw [Wd.put_ne]
  · exact h b hb
  · rintro rfl; exact hb e

theorem ItAt.self {G : Gl} {W : Wd} {s : Shared} {A : Around} {I : Addr} {src : ISrc} {k : Nat} {Q : Value → Shared → Prop} {E : Value → Shared → Prop} (It : ItAt G.w W s.heap I src k) (h : Q (.ref I) s) : wpAny (model G.prog G.w) A (pyIter (.ref I)) Q E s := by
  cases It with
  | lst _ _ _ _ f => exact wpAny_pyIter_listiter f h
  | tup _ _ f => exact wpAny_pyIter_tupleiter f h
  | rng _ f => exact wpAny_pyIter_rangeiter f h
  | cell _ f => exact wpAny_pyIter_listiter f h

/-- the block's context -/
def blk (c : Cx) (scope : Scope) : Cx := ⟨c.G, relS scope c.scope, false, c.n⟩

theorem comp_core {W₁ : Wd} {env : Env} {s₂ : Shared} {A : Around} {elt iter : Expr} {x : Str} {px : Pos} {ifs : List Expr} {scope : Scope} {pos : Pos} {I : Addr} {src : ISrc} {vs : List V} {out : Nat → List V} {cap : List (Str × V)} {cl : List (Str × Addr)} {E : Value → Shared → Prop} {RR : Value → Addr → Result → Shared → Prop}
    (hE : EnvOk c env) (hA : AOk c.n A) (S₂ : Sim c W₁ env σ s₂) (It : ItAt c.G.w W₁ s₂.heap I src 0) (hout : W₁ I = .out) (hitems : Items σ.sto src vs) (hz : vs.length < 1000000)
    (hcl1 : ∀ n a, cl.lookup n = some a → env.cells.lookup n = some a) (hcl2 : ∀ n, (n, NameKind.free) ∈ scope.names → (cl.lookup n).isSome = true)
    (hkind : scope.kind = .function) (hcell : ∀ y ∈ scope.names, y.2 ≠ .cell) (hx : (relS scope c.scope).names.lookup x = some .local)
    (hfree : ∀ n, (n, NameKind.free) ∈ scope.names → c.scope.names.lookup n = some .cell ∨ c.scope.names.lookup n = some .free)
    (hcap : ∀ p ∈ cap, σ.loc.lookup p.1 = some p.2 ∧ (relS scope c.scope).names.lookup p.1 ≠ some .local)
    (h0 : out 0 = [])
    (hitem : ∀ k v, vs[k]? = some v → Tests (blk c scope) ifs ⟨(x, v) :: cap, σ.sto⟩ fun b σ' => if b then Ev (blk c scope) elt σ' fun r σ'' => σ''.sto = σ.sto ∧ Sub cap σ''.loc ∧ out (k + 1) = out k ++ [r] else σ'.sto = σ.sto ∧ Sub cap σ'.loc ∧ out (k + 1) = out k)
    (hRR : ∀ D C s' W' xs n m, Le (guardW W₁ s₂.heap) W' → W' D = .prot (lstO xs n) → W' C = .own → s'.heap.Ns C m → SimG c.G W' σ.sto s' → VRs c.G.w W' (out vs.length) xs.toList → W₁ D = .out → W₁ C = .out → RR (.ref D) C (.ok .next) s') :
    wpAny (model c.G.prog c.G.w) A (newList []) (fun acc s₃ => wpAny (model c.G.prog c.G.w) A (newFunctionEnv scope env.globals cl [] env.qual none .none (some env)) (fun cenv s₄ =>
      codeAny (model c.G.prog c.G.w) A (.compStart (.ListComp elt [⟨.Name x px, iter, ifs, 0⟩] scope pos) 0 (.ref I) acc { cenv with scope := relabel scope env }) (RR acc cenv.locals) s₄) E s₃) E s₂ := by
  refine wpAny_newObj_type (wpAny_newFunctionEnv hcell (by intro y hy; simp at hy) (fun h₁ hns hsb => ?_) hkind)
  dsimp only at hns hsb ⊢
  generalize hH : s₂.heap.push { cls := .type "list", dict := none, data := .seq ([] : List Value).toArray } = H at hns hsb ⊢
  have hC : H.objs.size = s₂.heap.objs.size + 1 := by rw [← hH, Heap.size_push]
  generalize hD : s₂.heap.objs.size = D at *
  generalize hCC : H.objs.size = C at *
  have hCD : C ≠ D := by rw [hC]; exact Nat.ne_of_gt (Nat.lt_succ_self _)
  have fr : ∀ a, D ≤ a → s₂.heap.get? a = none := fun a ha => fresh_none _ (by rw [hD]; exact ha)
  have oD : W₁ D = .out := S₂.1.out (fr D (Nat.le_refl _))
  have oC : W₁ C = .out := S₂.1.out (fr C (by rw [hC]; exact Nat.le_succ _))
  have old : ∀ b o, s₂.heap.get? b = some o → h₁.get? b = some o := fun b o e => by
    have hb := Heap.lt_size e
    rw [hD] at hb
    have e1 : H.get? b = some o := by rw [← hH]; exact Heap.get?_push_of_some _ e
    exact hsb.extBut b o (by rw [hC]; exact Nat.ne_of_lt (Nat.lt_succ_of_lt hb)) (Heap.get?_push_of_some _ e1)
  have gD : h₁.get? D = some (lstO #[] 0) := by
    have e1 : H.get? D = some (lstO #[] 0) := by rw [← hH, ← hD]; exact Heap.get?_push_size _ rfl
    exact hsb.extBut D _ (Ne.symm hCD) (Heap.get?_push_of_some _ e1)
  obtain ⟨oI, gI, obI⟩ := It.ob
  have hID : I ≠ D := by rintro rfl; rw [fr _ (Nat.le_refl _)] at gI; cases gI
  have hIC : I ≠ C := by rintro rfl; rw [fr _ (by rw [hC]; exact Nat.le_succ _)] at gI; cases gI
  obtain ⟨oC', _, _, gC, _⟩ := id hns
  -- the world at the head of the loop
  have g0 : SimG c.G (guardW W₁ s₂.heap) σ.sto s₂ := S₂.1.guard
  have g1 : SimG c.G (guardW W₁ s₂.heap) σ.sto { s₂ with heap := h₁, toks := s₂.toks + 0 } := g0.keeps old
  have uD : guardW W₁ s₂.heap D = .out := by rw [guardW_ne (by rw [oD]; exact fun x => by cases x), oD]
  have uC : guardW W₁ s₂.heap C = .out := by rw [guardW_ne (by rw [oC]; exact fun x => by cases x), oC]
  have uI : guardW W₁ s₂.heap I = .out := by rw [guardW_ne (by rw [hout]; exact fun x => by cases x), hout]
  have g2 := g1.prot uD gD
  have g3 := g2.prot (a := I) (o := oI) (by rw [Wd.put_ne _ _ hID]; exact uI) (old _ _ gI)
  have vC : ((guardW W₁ s₂.heap).put D (.prot (lstO #[] 0))).put I (.prot oI) C = .out := by rw [Wd.put_ne _ _ (Ne.symm hIC), Wd.put_ne _ _ hCD]; exact uC
  let W₀ : Wd := (((guardW W₁ s₂.heap).put D (.prot (lstO #[] 0))).put I (.prot oI)).put C .own
  have g4 : SimG c.G W₀ σ.sto { s₂ with heap := h₁, toks := s₂.toks + 0 } := g3.owned (Le.put vC) fun a ha => by
    by_cases e : a = C
    · subst e; exact .inr ⟨Wd.put_self _ _ _, _, gC⟩
    · exact .inl ((Wd.put_ne _ _ e).trans ha)
  have le0 : Le (guardW W₁ s₂.heap) W₀ := (((Le.refl _).putT uD).putT uI).putT uC
  have W0D : W₀ D = .prot (lstO #[] 0) := by show Wd.put _ _ _ D = _; rw [Wd.put_ne _ _ (Ne.symm hCD), Wd.put_ne _ _ (Ne.symm hID), Wd.put_self]
  have W0I : W₀ I = .prot oI := by show Wd.put _ _ _ I = _; rw [Wd.put_ne _ _ hIC, Wd.put_self]
  have W0C : W₀ C = .own := Wd.put_self _ _ _
  let cenv : Env := compEnvC scope cl C env
  have hkd : ∀ y, cenv.kindOf y = (relS scope c.scope).names.lookup y := fun y => by
    show (relabel scope env).names.lookup y = _
    rw [relS_eq, hE.scope]
  have hcE : EnvOk (blk c scope) cenv := by
    refine ⟨?_, ?_, hE.globals, hE.builtins⟩
    · show relabel scope env = _; rw [relS_eq, hE.scope]; rfl
    · show scope.kind = _; exact hkind
  have hrel : ∀ y, ((relS scope c.scope).names.lookup y = some .cell ∨ (relS scope c.scope).names.lookup y = some .free) → (y, NameKind.free) ∈ scope.names := by
    intro y hy
    rw [relS_look] at hy
    cases hl : scope.names.lookup y with
    | none => rw [hl] at hy; rcases hy with hy | hy <;> cases hy
    | some k =>
      rw [hl, Option.map_some] at hy
      have hm := mem_of_lookup hl
      by_cases hb : (k == NameKind.free && c.scope.kind == .function && c.scope.names.lookup y == some .cell) = true
      · simp only [Bool.and_eq_true, beq_iff_eq] at hb
        rw [hb.1.1] at hm; exact hm
      · rw [if_neg hb] at hy
        rcases hy with hy | hy
        · injection hy with hy
          exact absurd hy (hcell _ hm)
        · injection hy with hy
          rw [hy] at hm; exact hm
  have lqg := guardW_q W₁ s₂.heap
  have hkE : ∀ y, env.kindOf y = c.scope.names.lookup y := fun y => by unfold Env.kindOf; rw [hE.scope]
  have guarded : ∀ a, CellRole c.own W₁ a → (∃ vo, s₂.heap.IsCell a vo) → CellRole false W₀ a := fun a f3 ⟨vo, f2⟩ => by
    unfold CellRole
    rw [if_neg (by simp)]
    have key : ∃ o, guardW W₁ s₂.heap a = .prot o := by
      unfold CellRole at f3
      split at f3
      · obtain ⟨o, q, _⟩ := f2
        exact ⟨o, by unfold guardW; rw [f3, q]⟩
      · obtain ⟨o, q⟩ := f3
        exact ⟨o, by rw [guardW_ne (by rw [q]; exact fun x => by cases x)]; exact q⟩
    obtain ⟨o, q⟩ := key
    exact ⟨o, (le0 a (by rw [q]; exact fun x => by cases x)).trans q⟩
  have L0 : LR c.G.w W₀ false cenv cap h₁ := by
    obtain ⟨r1, r2, r3, r4, r5, r6⟩ := S₂.2
    refine ⟨⟨_, hns, fun y v e1 e2 => ?_⟩, W0C, fun y e => ?_, fun y z a e1 e2 => r4 y z a (hcl1 _ _ e1) (hcl1 _ _ e2), fun y a e1 => ?_, fun y a e1 => ?_⟩
    · rw [hkd] at e1
      exact absurd e1 (hcap _ (mem_of_lookup e2)).2
    · rw [hkd] at e
      have hm := hrel y e
      obtain ⟨a, ha⟩ := Option.isSome_iff_exists.mp (hcl2 y hm)
      obtain ⟨b, vo, f1, f2, f3, f4⟩ := r3 y (by rw [hkE]; exact hfree y hm)
      have hab : a = b := by have := hcl1 y a ha; rw [f1] at this; exact (Option.some.inj this).symm
      subst hab
      refine ⟨a, vo, ha, let ⟨o, q, q'⟩ := f2; ⟨o, old _ _ q, q'⟩, guarded a f3 ⟨vo, f2⟩, fun v hv => ?_⟩
      obtain ⟨v', p, q⟩ := f4 v (hcap _ (mem_of_lookup hv)).1
      exact ⟨v', p, (q.mono lqg).mono le0.q⟩
    · obtain ⟨⟨vo, f2⟩, _⟩ := r6 y a (hcl1 y a e1)
      have hb := f2.lt
      rw [hD] at hb
      show a ≠ C
      rw [hC]; exact Nat.ne_of_lt (Nat.lt_succ_of_lt hb)
    · obtain ⟨⟨vo, f2⟩, f3⟩ := r6 y a (hcl1 y a e1)
      exact ⟨⟨vo, let ⟨o, q, q'⟩ := f2; ⟨o, old _ _ q, q'⟩⟩, guarded a f3 ⟨vo, f2⟩⟩
  have It0 : ItAt c.G.w W₀ h₁ I src 0 := (It.mono lqg fun _ e => old _ _ e).mono le0.q fun _ e => e
  have hxOk : Ok (blk c scope) x := .inl hx
  have loop : ∀ s₃ : Shared, s₃ = { s₂ with heap := h₁, toks := s₂.toks + ([] : List (Str × Value)).length } →
      codeAny (model c.G.prog c.G.w) A (.compLoop (.ListComp elt [⟨.Name x px, iter, ifs, 0⟩] scope pos) 0 (.ref I) (.ref D) cenv) (RR (.ref D) C) s₃ := by
    rintro s₃ rfl
    refine codeAny_compLoop_tests (fun n s' => ∃ k W' oI xs m, n = vs.length - k ∧ k ≤ vs.length ∧ (out k).length ≤ k ∧ Le (guardW W₁ s₂.heap) W' ∧ W' D = .prot (lstO xs m) ∧ W' I = .prot oI ∧ ItOb oI ∧ W' C = .own ∧ ItAt c.G.w W' s'.heap I src k ∧ VRs c.G.w W' (out k) xs.toList ∧ Sim (blk c scope) W' cenv ⟨cap, σ.sto⟩ s') ?_ vs.length
      ⟨0, W₀, oI, #[], 0, rfl, Nat.zero_le _, by rw [h0]; exact Nat.le_refl _, le0, W0D, W0I, obI, W0C, It0, by rw [h0]; exact .nil, g4, L0⟩
    rintro n s' ⟨k, W', oI', xs, m, rfl, hk, hlen, hle, hWD, hWI, hob', hWC, hit, rxs, S'⟩
    obtain ⟨_, _, _, nc⟩ := id hob'
    refine hit.next S'.1 (.inl ⟨_, hWI⟩) hA.1 (vs := vs) hitems (fun v y h' tk hv rv hs hit' => ?_) (fun h' tk hl hs => ?_)
    · have hb := (List.getElem?_eq_some_iff.mp hv).1
      obtain ⟨oI2, e2, ob2⟩ := hit'.ob
      have S₃ : Sim (blk c scope) (W'.put I (.prot oI2)) cenv ⟨cap, σ.sto⟩ { s' with heap := h', toks := tk } := S'.turnO hWI nc hs e2
      have lqT : Leq W' (W'.put I (.prot oI2)) := Leq.turn hWI
      have leT : Le (guardW W₁ s₂.heap) (W'.put I (.prot oI2)) := hle.putT uI
      have at4 : ∀ (W6 : Wd) (s6 : Shared) (σ6 : St), Le (W'.put I (.prot oI2)) W6 → Sim (blk c scope) W6 cenv σ6 s6 → σ6.sto = σ.sto → Sub cap σ6.loc → W6 D = .prot (lstO xs m) ∧ W6 I = .prot oI2 ∧ W6 C = .own ∧ ItAt c.G.w W6 s6.heap I src (k + 1) ∧ VRs c.G.w W6 (out k) xs.toList ∧ Sim (blk c scope) W6 cenv ⟨cap, σ.sto⟩ s6 := by
        intro W6 s6 σ6 l6 S6 hst hsub
        have i1 : W6 I = .prot oI2 := by rw [l6 I (by rw [Wd.put_self]; exact fun e => by cases e), Wd.put_self]
        refine ⟨?_, i1, ?_, ?_, (rxs.mono lqT).mono l6.q, ?_⟩
        · rw [l6 D (by rw [Wd.put_ne _ _ (Ne.symm hID), hWD]; exact fun e => by cases e), Wd.put_ne _ _ (Ne.symm hID), hWD]
        · rw [l6 C (by rw [Wd.put_ne _ _ (Ne.symm hIC), hWC]; exact fun e => by cases e), Wd.put_ne _ _ (Ne.symm hIC), hWC]
        · refine (hit'.mono lqT fun _ e => e).mono l6.q fun ob e => ?_
          have q := S6.1.at_ I
          rw [i1] at q
          rw [e2] at e; cases e; exact q
        · obtain ⟨l6', st6⟩ := σ6
          dsimp only at hst hsub
          subst hst
          exact S6.sub hsub
      dsimp only
      have hasg : Asg (blk c scope) (.Name x px) v ⟨cap, σ.sto⟩ fun _ σ' => σ' = ⟨(x, v) :: cap, σ.sto⟩ := Asg_name hxOk rfl
      refine seq1 (c := blk c scope) hasg hcE hA S₃ ⟨y, rv.mono lqT, rfl⟩ fun _ σ₄ W₄ _ s₄ h₄ l₄ _ S₄ => ?_
      subst h₄
      refine seq1 (c := blk c scope) (hitem k v hv) hcE hA S₄ rfl fun b σ₅ W₅ b' s₅ h₅ l₅ r₅ S₅ => ?_
      subst r₅
      cases b
      · simp only [Bool.false_eq_true, if_false] at h₅ ⊢
        obtain ⟨a1, a2, a3, a4, a5, a6⟩ := at4 W₅ s₅ σ₅ (l₄.trans l₅) S₅ h₅.1 h₅.2.1
        exact ⟨vs.length - (k + 1), by omega, k + 1, W₅, oI2, xs, m, rfl, hb, by rw [h₅.2.2]; omega, (leT.trans l₄).trans l₅, a1, a2, ob2, a3, a4, by rw [h₅.2.2]; exact a5, a6⟩
      · simp only [if_true] at h₅ ⊢
        refine seq1 (c := blk c scope) h₅ hcE hA S₅ rfl fun r σ₆ W₆ rx s₆ h₆ l₆ r₆ S₆ => ?_
        obtain ⟨a1, a2, a3, a4, a5, a6⟩ := at4 W₆ s₆ σ₆ ((l₄.trans l₅).trans l₆) S₆ h₆.1 h₆.2.1
        have hD6 := a6.1.at_ D
        rw [a1] at hD6
        refine wpAny_list_append_plain ⟨m, hD6⟩ (fun h7 hp7 hs7 => ?_) (by rw [← Array.length_toList, a5.length, sizeLine_eq]; omega)
        obtain ⟨m7, e7⟩ := hp7
        have off7 : ∀ b z, b ≠ D → s₆.heap.get? b = some z → h7.get? b = some z := fun b z hb e => hs7.extBut b z hb e
        have S₇ : Sim (blk c scope) (W₆.put D (.prot (lstO (xs.push rx) m7))) cenv ⟨cap, σ.sto⟩ { s₆ with heap := h7 } := a6.turnO (tk := s₆.toks) a1 (fun v e => by cases e) off7 e7
        have lq7 : Leq W₆ (W₆.put D (.prot (lstO (xs.push rx) m7))) := Leq.turn a1
        refine ⟨vs.length - (k + 1), by omega, k + 1, _, oI2, xs.push rx, m7, rfl, hb, by rw [h₆.2.2, List.length_append, List.length_singleton]; omega, (((leT.trans l₄).trans l₅).trans l₆).putT uD, Wd.put_self _ _ _, ?_, ob2, ?_, ?_, ?_, S₇⟩
        · rw [Wd.put_ne _ _ hID]; exact a2
        · rw [Wd.put_ne _ _ hCD]; exact a3
        · exact a4.mono lq7 fun ob e => off7 _ _ hID e
        · rw [h₆.2.2, Array.toList_push]
          exact (a5.mono lq7).append (.one (r₆.mono lq7))
    · have hkn : k = vs.length := by omega
      subst hkn
      have S₃ : Sim (blk c scope) (W'.put I .out) cenv ⟨cap, σ.sto⟩ { s' with heap := h', toks := tk } := S'.dropO hWI nc hs
      obtain ⟨⟨m', hm', _⟩, _⟩ := S₃.2
      have lq8 : Leq W' (W'.put I .out) := by
        refine ⟨fun b x e => ?_, fun b x e => ?_⟩
        · rw [Wd.put_ne]
          · exact e
          · rintro rfl; rw [hWI] at e; cases e
        · rw [Wd.put_ne]
          · exact e
          · rintro rfl; rw [hWI] at e; cases e
      exact hRR D C _ (W'.put I .out) xs m m' (hle.putT uI) (by rw [Wd.put_ne _ _ (Ne.symm hID)]; exact hWD) (by rw [Wd.put_ne _ _ (Ne.symm hIC)]; exact hWC) hm' S₃.1 (rxs.mono lq8) oD oC
  exact codeAny_compStart_list (loop _ rfl) (It0.self (s := { s₂ with heap := h₁, toks := s₂.toks + 0 }) (loop _ rfl))
end
section
variable {c : Cx} {σ : St}

theorem comp_out {W₁ W' : Wd} {env : Env} {s₂ s' : Shared} {D C : Addr} {xs : Array Value} {n : Nat} {m : Str → Option Value} (S₂ : Sim c W₁ env σ s₂) (hle : Le (guardW W₁ s₂.heap) W') (hWD : W' D = .prot (lstO xs n)) (hWC : W' C = .own)
    (hns : s'.heap.Ns C m) (S' : SimG c.G W' σ.sto s') (oD : W₁ D = .out) (oC : W₁ C = .out) :
    ∃ W₄ o, Sim c W₄ env σ s' ∧ Le W₁ W₄ ∧ W₄ D = .froz (lstO xs n) ∧ W₄ C = .prot o ∧ (∀ v, o.data ≠ .cell v) ∧ Leq W' W₄ := by
  classical
  obtain ⟨o, es, ep, gC, gd, gr⟩ := id hns
  have hCD : C ≠ D := by rintro rfl; rw [hWD] at hWC; cases hWC
  let W₃ : Wd := fun a => if a = D then .froz (lstO xs n) else if a = C then .prot o else match W' a with | .own => .out | r => r
  have w3D : W₃ D = .froz (lstO xs n) := if_pos rfl
  have w3C : W₃ C = .prot o := by show (if C = D then _ else if C = C then _ else _) = _; rw [if_neg hCD, if_pos rfl]
  have w3 : ∀ a, a ≠ D → a ≠ C → W' a ≠ .own → W₃ a = W' a := fun a h1 h2 h3 => by
    show (if a = D then _ else if a = C then _ else (match W' a with | .own => Role.out | r => r)) = _
    rw [if_neg h1, if_neg h2]; split <;> simp_all
  have w3o : ∀ a, a ≠ D → a ≠ C → W' a = .own → W₃ a = .out := fun a h1 h2 h3 => by
    show (if a = D then _ else if a = C then _ else (match W' a with | .own => Role.out | r => r)) = _
    rw [if_neg h1, if_neg h2, h3]
  have q3 : Leq W' W₃ := by
    refine ⟨fun a x e => ?_, fun a x e => ?_⟩
    · rw [w3 a (by rintro rfl; rw [hWD] at e; cases e) (by rintro rfl; rw [hWC] at e; cases e) (by rw [e]; exact fun x => by cases x)]; exact e
    · rw [w3 a (by rintro rfl; rw [hWD] at e; cases e) (by rintro rfl; rw [hWC] at e; cases e) (by rw [e]; exact fun x => by cases x)]; exact e
  have S₃ : SimG c.G W₃ σ.sto s' := by
    refine ⟨S'.sh, fun b x k => q3.1 b x (S'.base b x k), fun b => ?_, fun x y i hx hy => ?_, fun x i hx => ?_⟩
    · by_cases h1 : b = D
      · subst h1; rw [w3D]; have q := S'.at_ b; rw [hWD] at q; exact q
      · by_cases h2 : b = C
        · subst h2; rw [w3C]; exact gC
        · by_cases h3 : W' b = .own
          · rw [w3o b h1 h2 h3]; exact trivial
          · rw [w3 b h1 h2 h3]; exact (S'.at_ b).mono q3 fun _ x => x
    · have key : ∀ z, W₃ z = .cell i → W' z = .cell i := fun z hz => by
        by_cases h1 : z = D
        · subst h1; rw [w3D] at hz; cases hz
        · by_cases h2 : z = C
          · subst h2; rw [w3C] at hz; cases hz
          · by_cases h3 : W' z = .own
            · rw [w3o z h1 h2 h3] at hz; cases hz
            · rw [w3 z h1 h2 h3] at hz; exact hz
      exact S'.inj x y i (key x hx) (key y hy)
    · have key : ∀ z, W₃ z = .cell i → W' z = .cell i := fun z hz => by
        by_cases h1 : z = D
        · subst h1; rw [w3D] at hz; cases hz
        · by_cases h2 : z = C
          · subst h2; rw [w3C] at hz; cases hz
          · by_cases h3 : W' z = .own
            · rw [w3o z h1 h2 h3] at hz; cases hz
            · rw [w3 z h1 h2 h3] at hz; exact hz
      exact S'.low x i (key x hx)
  have l3 : Le (guardW W₁ s₂.heap) W₃ := fun a e => by
    have h1 : a ≠ D := by rintro rfl; exact e (by rw [guardW_ne (by rw [oD]; exact fun x => by cases x), oD])
    have h2 : a ≠ C := by rintro rfl; exact e (by rw [guardW_ne (by rw [oC]; exact fun x => by cases x), oC])
    rw [w3 a h1 h2 (by rw [hle a e]; exact guardW_no a), hle a e]
  obtain ⟨S₄, l4, q4⟩ := S₂.back l3 S₃
  refine ⟨_, o, S₄, l4, q4.1 _ _ w3D, ?_, (fun v e => by rw [gd] at e; cases e), q3.trans q4⟩
  rw [backW_ne (by rw [oC]; exact fun x => by cases x)]; exact w3C

structure CompOk (c : Cx) (scope : Scope) (x : Str) : Prop where
  kind : scope.kind = .function
  cell : scope.names.all (fun y => y.2 != .cell) = true
  names : scope.names.all (fun y => y.2 != .local || scope.names.lookup y.1 == some .local) = true
  x : (relS scope c.scope).names.lookup x = some .local
  free : scope.names.all (fun y => y.2 != .free || c.scope.names.lookup y.1 == some .cell || c.scope.names.lookup y.1 == some .free) = true

/-- what the block's rule asks -/
def CompGoal (c : Cx) (scope : Scope) (elt : Expr) (x : Str) (ifs : List Expr) (Q : V → St → Prop) (a : V) (σ₁ : St) : Prop :=
  ∃ vs src cap, ∃ out : Nat → List V, Src σ₁ a src ∧ Items σ₁.sto src vs ∧ vs.length < 1000000 ∧ (∀ p ∈ cap, σ₁.loc.lookup p.1 = some p.2 ∧ (relS scope c.scope).names.lookup p.1 ≠ some .local) ∧ out 0 = [] ∧
    (∀ k v, vs[k]? = some v → Tests (blk c scope) ifs ⟨(x, v) :: cap, σ₁.sto⟩ fun b σ' => if b then Ev (blk c scope) elt σ' fun r σ'' => σ''.sto = σ₁.sto ∧ Sub cap σ''.loc ∧ out (k + 1) = out k ++ [r] else σ'.sto = σ₁.sto ∧ Sub cap σ'.loc ∧ out (k + 1) = out k) ∧
    Q (.lst (out vs.length)) σ₁

theorem Ev_lc {elt iter : Expr} {x : Str} {px : Pos} {ifs : List Expr} {scope : Scope} {pos : Pos} {Q : V → St → Prop} (hc : CompOk c scope x) (hf : ∀ env y, foldedSetIterable iter env y = pure y)
    (h : Ev c iter σ (CompGoal c scope elt x ifs Q)) : Ev c (.ListComp elt [⟨.Name x px, iter, ifs, 0⟩] scope pos) σ Q := by
  intro W env s A _ hE hA hS hT
  subst hT
  have hkE : ∀ y, env.kindOf y = c.scope.names.lookup y := fun y => by unfold Env.kindOf; rw [hE.scope]
  have hfree : ∀ n, (n, NameKind.free) ∈ scope.names → c.scope.names.lookup n = some .cell ∨ c.scope.names.lookup n = some .free := fun n hn => by
    have := List.all_eq_true.mp hc.free _ hn
    simpa using this
  obtain ⟨cl, e, hcl1, hcl2⟩ := closure_eq (scope := scope) (env := env) fun n hn => by
    obtain ⟨a, vo, f1, _⟩ := hS.2.cells n (by rw [hkE]; exact hfree n hn)
    exact ⟨a, f1⟩
  rw [eval_ListComp]
  refine wpAny_comprehension_free (use := none) rfl (hf env) e hc.kind (fun y hy hl => ?_) (seq1 h hE hA hS rfl fun a σ₁ W₁ ax s₁ h₁ l₁ r₁ S₁ => ?_)
  · have := List.all_eq_true.mp hc.names _ hy
    simp only [hl] at this
    simpa using this
  obtain ⟨vs, src, cap, out, hsrc, hitems, hz, hcap, h0, hitem, q⟩ := h₁
  refine hsrc.iter r₁ S₁ fun I s₂ It hout _ _ S₂ => ?_
  refine comp_core (RR := fun acc C => compPost _ A _ none _ acc C) hE hA S₂ It hout hitems hz hcl1 hcl2 hc.kind (fun y hy => ?_) hc.x hfree hcap h0 hitem fun D C s' W' xs n m hle hWD hWC hns S' rxs oD oC => ?_
  · have := List.all_eq_true.mp hc.cell _ hy
    simpa using this
  obtain ⟨W₄, o, S₄, l₄, wD, wC, ho, q₄⟩ := comp_out S₂ hle hWD hWC hns S' oD oC
  refine ⟨m, hns, fun h' hs' => ?_⟩
  have S₅ := S₄.dropO (tk := s'.toks) wC ho fun b x hb e => hs'.extBut b x hb e
  have hCD : D ≠ C := by rintro rfl; rw [wD] at wC; cases wC
  have lq5 : Leq W₄ (W₄.put C .out) := by
    refine ⟨fun b x e => ?_, fun b x e => ?_⟩
    · rw [Wd.put_ne]
      · exact e
      · rintro rfl; rw [wC] at e; cases e
    · rw [Wd.put_ne]
      · exact e
      · rintro rfl; rw [wC] at e; cases e
  exact ⟨_, σ₁, _, q, l₁.trans (l₄.putT oC), .lst (lq5.1 _ _ wD) rfl rfl (rxs.mono (q₄.trans lq5)), S₅⟩

/-- .. laid into a local name on the statement's own line -/
theorem Ex_asg_lc {elt iter : Expr} {x y : Str} {px py : Pos} {ifs : List Expr} {scope : Scope} {pos spos : Pos} {Q : Fl → St → Prop} (hsw : swapsWith (.ListComp elt [⟨.Name x px, iter, ifs, 0⟩] scope pos) (some (.Name y py)) spos.line (dEnv c.scope) = pure true)
    (hc : CompOk c scope x) (hf : ∀ env y, foldedSetIterable iter env y = pure y) (hy : Ok c y)
    (h : Ev c iter σ (CompGoal c scope elt x ifs fun v σ₁ => Q .next ⟨(y, v) :: σ₁.loc, σ₁.sto⟩)) : Ex c (.Assign [.Name y py] (.ListComp elt [⟨.Name x px, iter, ifs, 0⟩] scope pos) spos) σ Q := by
  intro W env s A _ hE hA hS hT
  subst hT
  have hkE : ∀ y, env.kindOf y = c.scope.names.lookup y := fun y => by unfold Env.kindOf; rw [hE.scope]
  have hfree : ∀ n, (n, NameKind.free) ∈ scope.names → c.scope.names.lookup n = some .cell ∨ c.scope.names.lookup n = some .free := fun n hn => by
    have := List.all_eq_true.mp hc.free _ hn
    simpa using this
  obtain ⟨cl, e, hcl1, hcl2⟩ := closure_eq (scope := scope) (env := env) fun n hn => by
    obtain ⟨a, vo, f1, _⟩ := hS.2.cells n (by rw [hkE]; exact hfree n hn)
    exact ⟨a, f1⟩
  rw [exec_Assign_Name_used _ _ _ _ (by rw [swapsWith_d, hE.scope]; exact hsw)]
  refine wpAny_bind (wpAny_standAt (wpAny_bind ?_))
  show wpAny _ A (do let _ ← comprehension (.ListComp elt [⟨.Name x px, iter, ifs, 0⟩] scope pos) scope env _ (newList []) false (eval iter env) (some (assign (.Name y py) env))) _ _ s
  refine wpAny_bind (wpAny_mono (wpAny_comprehension_free (use := some (assign (.Name y py) env)) (Q := fun _ s' => ∃ b σ' W', Q b σ' ∧ Le W W' ∧ FR c.G.w W' b .next ∧ Sim c W' env σ' s') rfl (hf env) e hc.kind (fun y hy hl => ?_) (seq1 h hE hA hS rfl fun a σ₁ W₁ ax s₁ h₁ l₁ r₁ S₁ => ?_)) (fun _ s' hq => wpAny_pure (wpAny_pure hq)) fun _ _ e => e)
  · have := List.all_eq_true.mp hc.names _ hy
    simp only [hl] at this
    simpa using this
  obtain ⟨vs, src, cap, out, hsrc, hitems, hz, hcap, h0, hitem, q⟩ := h₁
  refine hsrc.iter r₁ S₁ fun I s₂ It hout _ _ S₂ => ?_
  refine comp_core (RR := fun acc C => compPost _ A _ (some (assign (.Name y py) env)) _ acc C) hE hA S₂ It hout hitems hz hcl1 hcl2 hc.kind (fun y hy => ?_) hc.x hfree hcap h0 hitem fun D C s' W' xs n m hle hWD hWC hns S' rxs oD oC => ?_
  · have := List.all_eq_true.mp hc.cell _ hy
    simpa using this
  obtain ⟨W₄, o, S₄, l₄, wD, wC, ho, q₄⟩ := comp_out S₂ hle hWD hWC hns S' oD oC
  have rv : VR c.G.w W₄ (.lst (out vs.length)) (.ref D) := .lst wD rfl rfl (rxs.mono q₄)
  show wpAny _ A (assign (.Name y py) env (.ref D)) _ _ _
  have hstore : Asg c (.Name y py) (.lst (out vs.length)) σ₁ fun _ σ' => σ' = ⟨(y, .lst (out vs.length)) :: σ₁.loc, σ₁.sto⟩ := Asg_name hy rfl
  refine seq1 hstore hE hA S₄ ⟨_, rv, rfl⟩ fun _ σ₅ W₅ _ s₅ h₅ l₅ _ S₅ => ?_
  subst h₅
  have wC5 : W₅ C = .prot o := (l₅ C (by rw [wC]; exact fun x => by cases x)).trans wC
  have gC4 := S₄.1.at_ C
  have gC5 := S₅.1.at_ C
  rw [wC] at gC4
  rw [wC5] at gC5
  refine ⟨m, ?_, fun h' hs' => ?_⟩
  · obtain ⟨o1, es, ep, e1, e2⟩ := hns
    rw [show s'.heap.get? C = some o from gC4] at e1
    cases e1
    exact ⟨o, es, ep, gC5, e2⟩
  · have S₆ := S₅.dropO (tk := s₅.toks) wC5 ho fun b x hb e => hs'.extBut b x hb e
    exact ⟨.next, _, _, q, l₁.trans ((l₄.trans l₅).putT oC), .next, S₆⟩
end
/-! what a call made is let be: its places beyond k become frozen data -/
mutual
inductive Res (s : List MO) (k : Nat) : V → V → Prop
  | none : Res s k .none .none
  | bool (b : Bool) : Res s k (.bool b) (.bool b)
  | int (i : Int) : Res s k (.int i) (.int i)
  | str (x : Str) : Res s k (.str x) (.str x)
  | rng (a b c : Int) : Res s k (.rng a b c) (.rng a b c)
  | con (v : Value) : Res s k (.con v) (.con v)
  | tup {vs ws : List V} : Ress s k vs ws → Res s k (.tup vs) (.tup ws)
  | lst {vs ws : List V} : Ress s k vs ws → Res s k (.lst vs) (.lst ws)
  | dct {ds es : List (V × V)} : DRess s k ds es → Res s k (.dct ds) (.dct es)
  | old {i : Nat} : i < k → Res s k (.ref i) (.ref i)
  | new {i : Nat} {vs ws : List V} : k ≤ i → s[i]? = some (.list vs) → Ress s k vs ws → Res s k (.ref i) (.lst ws)
  | newd {i : Nat} {ds es : List (V × V)} : k ≤ i → s[i]? = some (.dict ds) → DRess s k ds es → Res s k (.ref i) (.dct es)
inductive Ress (s : List MO) (k : Nat) : List V → List V → Prop
  | nil : Ress s k [] []
  | cons {v w : V} {vs ws : List V} : Res s k v w → Ress s k vs ws → Ress s k (v :: vs) (w :: ws)
inductive DRess (s : List MO) (k : Nat) : List (V × V) → List (V × V) → Prop
  | nil : DRess s k [] []
  | cons {x v w : V} {vs ws : List (V × V)} : Res s k v w → DRess s k vs ws → DRess s k ((x, v) :: vs) ((x, w) :: ws)
end
inductive ResM (s : List MO) (k : Nat) : MO → MO → Prop
  | list {vs ws : List V} : Ress s k vs ws → ResM s k (.list vs) (.list ws)
  | dict {ds es : List (V × V)} : DRess s k ds es → ResM s k (.dict ds) (.dict es)
  | iter {v w : V} {n : Nat} : Res s k v w → ResM s k (.iter v n) (.iter w n)
  | junk (m : MO) : ResM s k m .junk

mutual
/-- no place from k on is meant -/
def V.lo (k : Nat) : V → Bool
  | .ref i => decide (i < k)
  | .tup vs => los k vs
  | .lst vs => los k vs
  | .dct ds => dlos k ds
  | _ => true
def los (k : Nat) : List V → Bool
  | [] => true
  | v :: vs => v.lo k && los k vs
def dlos (k : Nat) : List (V × V) → Bool
  | [] => true
  | p :: vs => p.2.lo k && dlos k vs
end
mutual
theorem Res.lo {s : List MO} {k : Nat} : ∀ v : V, v.lo k = true → Res s k v v
  | .none, _ => .none
  | .bool b, _ => .bool b
  | .int i, _ => .int i
  | .str x, _ => .str x
  | .rng a b c, _ => .rng a b c
  | .con v, _ => .con v
  | .tup vs, h => .tup (Ress.lo vs (by simpa [V.lo] using h))
  | .lst vs, h => .lst (Ress.lo vs (by simpa [V.lo] using h))
  | .dct ds, h => .dct (DRess.lo ds (by simpa [V.lo] using h))
  | .ref i, h => .old (by simpa [V.lo] using h)
theorem Ress.lo {s : List MO} {k : Nat} : ∀ vs : List V, los k vs = true → Ress s k vs vs
  | [], _ => .nil
  | v :: vs, h => by
    simp only [los, Bool.and_eq_true] at h
    exact .cons (Res.lo v h.1) (Ress.lo vs h.2)
theorem DRess.lo {s : List MO} {k : Nat} : ∀ vs : List (V × V), dlos k vs = true → DRess s k vs vs
  | [], _ => .nil
  | (x, v) :: vs, h => by
    simp only [dlos, Bool.and_eq_true] at h
    exact .cons (Res.lo v h.1) (DRess.lo vs h.2)
end
theorem los_all (k : Nat) (vs : List V) : los k vs = true ↔ ∀ v ∈ vs, v.lo k = true := by
  induction vs with
  | nil => simp [los]
  | cons v vs ih => simp [los, ih]
theorem los_ints (k : Nat) (ns : List Int) : los k (ns.map V.int) = true := by
  rw [los_all]
  intro v hv
  obtain ⟨n, _, rfl⟩ := List.mem_map.mp hv
  rfl

def trimW (W : Wd) (h : Heap) (k : Nat) : Wd := fun a => match W a with
  | .cell i => if i < k then .cell i else match h.get? a with
    | some o => .froz o
    | none => .out
  | r => r
theorem trimW_ne {W : Wd} {h : Heap} {k : Nat} {a : Addr} (e : ∀ i, W a ≠ .cell i) : trimW W h k a = W a := by
  unfold trimW
  split
  · rename_i i q; exact absurd q (e i)
  · rfl
theorem trimW_old {W : Wd} {h : Heap} {k i : Nat} {a : Addr} (e : W a = .cell i) (hi : i < k) : trimW W h k a = .cell i := by
  unfold trimW; rw [e]; exact if_pos hi
theorem trimW_new {W : Wd} {h : Heap} {k i : Nat} {a : Addr} {o : Obj} (e : W a = .cell i) (hi : k ≤ i) (ho : h.get? a = some o) : trimW W h k a = .froz o := by
  unfold trimW; rw [e]
  show (if i < k then _ else _) = _
  rw [if_neg (Nat.not_lt.mpr hi), ho]

section
variable {G : Gl} {W : Wd} {s : Shared} {sto : List MO} {k : Nat}
mutual
theorem Res.vr (S : SimG G W sto s) : ∀ {v u : V} {x : Value}, Res sto k v u → VR G.w W v x → VR G.w (trimW W s.heap k) u x
  | _, _, _, .none, .none => .none
  | _, _, _, .bool b, .bool _ => .bool b
  | _, _, _, .int i, .int _ t => .int i t
  | _, _, _, .str x, .str _ t => .str x t
  | _, _, _, .rng a b c, .rng e => .rng (by rw [trimW_ne (by rw [e]; exact fun _ x => by cases x)]; exact e)
  | _, _, _, .con v, .con _ => .con v
  | _, _, _, .tup r, .tup e q => .tup (by rw [trimW_ne (by rw [e]; exact fun _ x => by cases x)]; exact e) (r.vr S q)
  | _, _, _, .lst r, .lst e a b q => .lst (by rw [trimW_ne (by rw [e]; exact fun _ x => by cases x)]; exact e) a b (r.vr S q)
  | _, _, _, .dct r, .dct e lo q => .dct (by rw [trimW_ne (by rw [e]; exact fun _ x => by cases x)]; exact e) lo (r.vr S q)
  | _, _, _, .old hi, .ref e => .ref (trimW_old e hi)
  | _, _, _, .new hi hs r, .ref (a := a) e => by
    have q := S.at_ a
    rw [e] at q
    obtain ⟨m, o, e1, e2, e3⟩ := q
    rw [hs] at e1; cases e1
    cases e3 with
    | list p => exact .lst (trimW_new e hi e2) rfl rfl (r.vr S p)
  | _, _, _, .newd hi hs r, .ref (a := a) e => by
    have q := S.at_ a
    rw [e] at q
    obtain ⟨m, o, e1, e2, e3⟩ := q
    rw [hs] at e1; cases e1
    cases e3 with
    | dict p => exact .dct (trimW_new e hi e2) (S.low _ _ e) (r.vr S p)
theorem Ress.vr (S : SimG G W sto s) : ∀ {v u : List V} {x : List Value}, Ress sto k v u → VRs G.w W v x → VRs G.w (trimW W s.heap k) u x
  | _, _, _, .nil, .nil => .nil
  | _, _, _, .cons a b, .cons p q => .cons (a.vr S p) (b.vr S q)
theorem DRess.vr (S : SimG G W sto s) : ∀ {v u : List (V × V)} {x : List DictEntry}, DRess sto k v u → DRs G.w W v x → DRs G.w (trimW W s.heap k) u x
  | _, _, _, .nil, .nil => .nil
  | _, _, _, .cons a b, .int p q => .int (a.vr S p) (b.vr S q)
  | _, _, _, .cons a b, .str p q => .str (a.vr S p) (b.vr S q)
end
theorem ResM.mr (S : SimG G W sto s) {m n : MO} {o : Obj} (r : ResM sto k m n) (h : MR G.w W m o) : MR G.w (trimW W s.heap k) n o := by
  cases r with
  | list r => cases h with | list p => exact .list (r.vr S p)
  | dict r => cases h with | dict p => exact .dict (r.vr S p)
  | iter r => cases h with | iter a b p => exact .iter a b (r.vr S p)
  | junk m => exact .junk o
end

structure Trim (k : Nat) (s : List MO) (v : V) (s' : List MO) (v' : V) : Prop where
  val : Res s k v v'
  len : s'.length = k
  le : k ≤ s.length
  cell : ∀ i m m', i < k → s[i]? = some m → s'[i]? = some m' → ResM s k m m'

theorem Calls_trim {G : Gl} {n : Nat} {f : Value} {args : List V} {sto : List MO} {Q' Q : V → List MO → Prop} (h : Calls G n f args sto Q') (k : ∀ v s, Q' v s → ∃ v' s', Trim sto.length s v s' v' ∧ Q v' s') : Calls G n f args sto Q := by
  intro W s A xs hno hA hS hx
  refine codeAny_mono (h W s A xs hno hA hS hx) ?_
  rintro r s' ⟨x, v, sto', W', rfl, q, l, hno', rv, S'⟩
  obtain ⟨v', st', T, q'⟩ := k v sto' q
  have lt : ∀ a i, W a = .cell i → i < sto.length := fun a i e => by
    have q := hS.at_ a
    rw [e] at q
    obtain ⟨_, _, e1, _⟩ := q
    exact (List.getElem?_eq_some_iff.mp e1).1
  refine ⟨x, v', st', trimW W' s'.heap sto.length, rfl, q', fun a e => ?_, fun a e => ?_, T.val.vr S' rv, S'.sh, fun b o e => ?_, fun b => ?_, fun x y i hx hy => ?_, fun x i hx => ?_⟩
  · have e1 := l a e
    by_cases h : ∃ i, W a = .cell i
    · obtain ⟨i, hi⟩ := h
      rw [trimW_old (e1.trans hi) (lt a i hi), hi]
    · rw [trimW_ne (fun i hi => h ⟨i, e1.symm.trans hi⟩), e1]
  · unfold trimW at e
    split at e
    · split at e
      · cases e
      · split at e <;> cases e
    · exact hno' a e
  · have e1 := S'.base b o e
    rw [trimW_ne (by rw [e1]; exact fun _ x => by cases x)]; exact e1
  · have q := S'.at_ b
    revert q
    cases e : W' b with
    | cell i =>
      rintro ⟨m, o, e1, e2, e3⟩
      by_cases hi : i < sto.length
      · rw [trimW_old e hi]
        have hb : i < st'.length := by rw [T.len]; exact hi
        exact ⟨_, o, List.getElem?_eq_getElem hb, e2, (T.cell i m _ hi e1 (List.getElem?_eq_getElem hb)).mr S' e3⟩
      · rw [trimW_new e (Nat.not_lt.mp hi) e2]; exact e2
    | _ =>
      intro q
      rw [trimW_ne (by rw [e]; exact fun _ x => by cases x), e]
      exact q
  · have key : ∀ z, trimW W' s'.heap sto.length z = .cell i → W' z = .cell i := fun z hz => by
      cases e : W' z with
      | cell j =>
        by_cases hj : j < sto.length
        · rw [trimW_old e hj] at hz; exact hz
        · unfold trimW at hz
          rw [e] at hz
          simp only [hj, if_false] at hz
          split at hz <;> cases hz
      | _ =>
        rw [trimW_ne (by rw [e]; exact fun _ x => by cases x), e] at hz; cases hz
    exact S'.inj x y i (key x hx) (key y hy)
  · have key : ∀ z, trimW W' s'.heap sto.length z = .cell i → W' z = .cell i := fun z hz => by
      cases e : W' z with
      | cell j =>
        by_cases hj : j < sto.length
        · rw [trimW_old e hj] at hz; exact hz
        · unfold trimW at hz
          rw [e] at hz
          simp only [hj, if_false] at hz
          split at hz <;> cases hz
      | _ =>
        rw [trimW_ne (by rw [e]; exact fun _ x => by cases x), e] at hz; cases hz
    exact S'.low x i (key x hx)
/-- the items go to the targets, first to last -/
def AsgL (c : Cx) (ts : List Expr) (vs : List V) (σ : St) (Q : Unit → St → Prop) : Prop := DoG c σ (fun _ _ _ => True) (fun W env m => ∃ xs, VRs c.G.w W vs xs ∧ m = assignInOrder ((assignEach ts env).map (·.2)) xs) Q

section
variable {c : Cx} {σ : St}
theorem AsgL_nil {Q : Unit → St → Prop} (h : Q () σ) : AsgL c [] [] σ Q := by
  intro W env s A m hE hA hS hT
  obtain ⟨xs, hx, rfl⟩ := hT
  cases hx
  exact wpAny_assignInOrder_none ⟨(), σ, W, h, Le.refl W, trivial, hS⟩
theorem AsgL_cons {t : Expr} {ts : List Expr} {v : V} {vs : List V} {Q : Unit → St → Prop} (hs : isStarred t = false) (h : Asg c t v σ fun _ σ₁ => AsgL c ts vs σ₁ Q) : AsgL c (t :: ts) (v :: vs) σ Q := by
  intro W env s A m hE hA hS hT
  obtain ⟨xs, hx, rfl⟩ := hT
  cases hx with
  | @cons _ x _ xs r rs =>
    have e1 : assignEach (t :: ts) env = (false, assign t env) :: assignEach ts env := by cases t <;> first | rfl | cases hs
    rw [e1]
    exact wpAny_assignInOrder_more (seq1 h hE hA hS ⟨x, r, rfl⟩ fun _ σ₁ W₁ _ s₁ h₁ l₁ _ S₁ => seq1 h₁ hE hA S₁ ⟨xs, rs.mono l₁.q, rfl⟩ fun _ σ₂ W₂ _ s₂ q l₂ _ S₂ => ⟨(), σ₂, W₂, q, l₁.trans l₂, trivial, S₂⟩)
theorem assignEach_len (env : Env) : ∀ ts : List Expr, ts.any isStarred = false → (assignEach ts env).length = ts.length ∧ (assignEach ts env).findIdx? (·.1) = none
  | [], _ => ⟨rfl, rfl⟩
  | t :: ts, h => by
    rw [List.any_cons, Bool.or_eq_false_iff] at h
    have e1 : assignEach (t :: ts) env = (false, assign t env) :: assignEach ts env := by cases t <;> first | rfl | cases h.1
    obtain ⟨a, b⟩ := assignEach_len env ts h.2
    rw [e1]
    refine ⟨by rw [List.length_cons, List.length_cons, a], ?_⟩
    rw [List.findIdx?_cons, b]; rfl
theorem Asg_tup {elts : List Expr} {k : Nat} {p : Pos} {vs : List V} {Q : Unit → St → Prop} (hst : elts.any isStarred = false) (hn : elts.length = vs.length) (h : AsgL c elts vs σ Q) : Asg c (.Tuple elts k p) (.tup vs) σ Q := by
  intro W env s A m hE hA hS hT
  obtain ⟨x, hx, rfl⟩ := hT
  cases hx with
  | @tup a xs n _ e r =>
    have q := hS.1.at_ a
    rw [e] at q
    obtain ⟨a1, a2⟩ := assignEach_len env elts hst
    have hlen := r.length
    rw [Array.length_toList] at hlen
    refine wpAny_assign_Tuple hA.1 ⟨_, q, rfl, n, rfl⟩ (by rw [a1, hn, hlen]) a2 fun h' he => ?_
    have S' : Sim c W env σ { s with heap := h' } := hS.keeps (tk := s.toks) fun b o eb => he b o (Nat.ne_of_lt (Heap.lt_size eb)) eb
    exact seq1 h hE hA S' ⟨_, r, rfl⟩ fun _ σ₂ W₂ _ s₂ q l₂ _ S₂ => ⟨(), σ₂, W₂, q, l₂, trivial, S₂⟩

/-- names bound, last to first -/
def bindAll (loc : List (Str × V)) : List Str → List V → List (Str × V)
  | n :: ns, v :: vs => bindAll ((n, v) :: loc) ns vs
  | _, _ => loc
theorem bind_all {W : Wd} {env : Env} {sto : List MO} {A : Around} {E : Value → Shared → Prop} {Q : Unit → Shared → Prop} (hE : EnvOk c env) (ns : List Str) : ∀ (vs : List V) (xs : List Value) (loc : List (Str × V)) (s : Shared), (∀ n ∈ ns, Ok c n) → Sim c W env ⟨loc, sto⟩ s → VRs c.G.w W vs xs →
    (∀ s', Sim c W env ⟨bindAll loc ns vs, sto⟩ s' → Q () s') → wpAny (model c.G.prog c.G.w) A (assignInOrder (ns.map fun n => bindName env n) xs) Q E s := by
  induction ns with
  | nil =>
    intro vs xs loc s _ S r h
    cases xs with
    | nil => exact wpAny_assignInOrder_none (h s (by rw [show bindAll loc [] vs = loc from rfl]; exact S))
    | cons x xs => exact wpAny_pure (h s (by rw [show bindAll loc [] vs = loc from rfl]; exact S))
  | cons n ns ih =>
    intro vs xs loc s hok S r h
    cases r with
    | nil => exact wpAny_pure (h s S)
    | @cons v x vs xs r rs =>
      rw [List.map_cons]
      refine wpAny_assignInOrder_more (wpAny_bindName (S.storeName hE (hok n (.head _)) r fun s' S' => ?_))
      exact ih vs xs _ s' (fun m hm => hok m (.tail _ hm)) S' rs h
theorem VRs.reverse {w : World} {W : Wd} : ∀ {vs : List V} {xs : List Value}, VRs w W vs xs → VRs w W vs.reverse xs.reverse
  | _, _, .nil => .nil
  | _, _, .cons a b => by rw [List.reverse_cons, List.reverse_cons]; exact b.reverse.append (.one a)
/-- a, b = x, y within a def: the stores go last to first -/
theorem Ex_asgW {elts : List Expr} {k : Nat} {p pos : Pos} {e : Expr} {names : List Str} {Q : Fl → St → Prop} (hs : swapsWithSole [.Tuple elts k p] e pos.line (dEnv c.scope) = pure false) (hw : swappedStores [.Tuple elts k p] e (dEnv c.scope) = pure (some names)) (hok : ∀ n ∈ names, Ok c n)
    (h : Ev c e σ fun v σ₁ => ∃ vs, v = .tup vs ∧ vs.length = names.length ∧ Q .next ⟨bindAll σ₁.loc names.reverse vs.reverse, σ₁.sto⟩) : Ex c (.Assign [.Tuple elts k p] e pos) σ Q := by
  intro W env s A m hE hA hS hT
  subst hT
  refine Assign_Tuple_swapped (names := names) (seq1 h hE hA hS rfl fun v σ₁ W₁ y s₁ h₁ l₁ r₁ S₁ => ?_) (by rw [swapsSole_d, hE.scope]; exact hs) (by rw [swappedStores_d, hE.scope]; exact hw)
  obtain ⟨vs, rfl, hlen, q⟩ := h₁
  cases r₁ with
  | @tup a xs n _ e r =>
    have qa := S₁.1.at_ a
    rw [e] at qa
    have hl := r.length
    rw [Array.length_toList] at hl
    have hn : names.length = xs.size := by rw [← hlen, hl]
    rw [hn]
    refine wpAny_unpackItems_tuple hA.1 ⟨_, qa, rfl, n, rfl⟩ fun h' he => ?_
    have S' : Sim c W₁ env σ₁ { s₁ with heap := h' } := S₁.keeps (tk := s₁.toks) fun b o eb => he b o (Nat.ne_of_lt (Heap.lt_size eb)) eb
    exact bind_all hE _ _ _ _ _ (fun n hn => hok n (List.mem_reverse.mp hn)) S' r.reverse fun s' S'' => ⟨.next, _, W₁, q, l₁, .next, S''⟩

theorem VRs.set {w : World} {W : Wd} {v : V} {x : Value} (rv : VR w W v x) : ∀ {vs : List V} {xs : List Value} (k : Nat), VRs w W vs xs → VRs w W (vs.set k v) (xs.set k x)
  | _, _, _, .nil => .nil
  | _, _, 0, .cons _ b => .cons rv b
  | _, _, k + 1, .cons a b => .cons a (VRs.set rv k b)
theorem list_store {prog : Program} {w : World} {A : Around} {E : Value → Shared → Prop} {s : Shared} {l : Addr} {xs : Array Value} {n : Nat} {k : Int} {t : Tok} {v : Value} {Q : Unit → Shared → Prop} (ho : s.heap.get? l = some (lstO xs n))
    (h0 : 0 ≤ k) (hfit : k < 2 ^ 63) (hn : k < xs.size)
    (hQ : ∀ n', (s.heap.update l (Obj.mapSeq (·.setIfInBounds k.toNat v))).get? l = some (lstO (xs.setIfInBounds k.toNat v) n') → Heap.SameBut l s.heap (s.heap.update l (Obj.mapSeq (·.setIfInBounds k.toNat v))) → Q () { s with heap := s.heap.update l (Obj.mapSeq (·.setIfInBounds k.toNat v)) }) :
    wpAny (model prog w) A (setItem (.ref l) (.int k t) v) Q E s := by
  have hT : s.TypeIs (.ref l) "list" := ⟨_, ho, rfl⟩
  unfold setItem
  try with_reducible refine wpAny_holding ?_
  first | refine wpAny_bind (wpAny_pure ?_) | skip
  refine wpAny_bind (wpAny_sequenceKey hT (by decide) ?_)
  refine wpAny_bind (wpAny_callSpecial?_slot (name := Str.ofString "__setitem__") hT slot_list_setitem (wpAny_call_entry slot_list_setitem hT entry_list_setitem ?_ (args_list_setitem _ _ _)))
  show wpAny _ _ (Builtin.List.listSubscript? (.int k t) >>= _) _ _ s
  refine wpAny_bind (wpAny_listSubscript_int (fitsIndex_of h0 hfit) ?_)
  clear hfit
  obtain ⟨j, rfl⟩ := Int.eq_ofNat_of_zero_le h0
  have hj : j < xs.size := by omega
  show wpAny _ _ ((seqItemAt l j >>= fun r => pure (r.map (j, ·))) >>= _) _ _ s
  refine wpAny_bind (wpAny_bind (wpAny_seqItemAt ho rfl (wpAny_pure ?_)))
  rw [show xs[j]? = some xs[j] from Array.getElem?_eq_getElem hj]
  show wpAny _ _ (setSeqItemAt l j v >>= _) _ _ s
  have hfin : (s.heap.update l (Obj.mapSeq (·.setIfInBounds j v))).get? l = some (lstO (xs.setIfInBounds j v) n) := by
    have e : Obj.mapSeq (·.setIfInBounds j v) (lstO xs n) = lstO (xs.setIfInBounds j v) n := by simp [Obj.mapSeq]
    rw [Heap.get?_update_self _ ho (by rw [e]; rfl), e]
  refine wpAny_bind (wpAny_setSeqItemAt ho rfl ?_)
  first
    | exact wpAny_bind (wpAny_pure (wpAny_pure ⟨.none, rfl, wpAny_pure (hQ _ hfin (Heap.SameBut.update ..))⟩))
    | exact wpAny_pure ⟨.none, rfl, wpAny_pure (hQ _ hfin (Heap.SameBut.update ..))⟩
theorem Set_list {i : Nat} {vs : List V} {k : Int} {v : V} {loc : List (Str × V)} {sto : List MO} {Q : Unit → St → Prop} (hi : sto[i]? = some (.list vs)) (h0 : 0 ≤ k) (hk : k < vs.length) (hz : vs.length < 1000000) (h : Q () ⟨loc, sto.set i (.list (vs.set k.toNat v))⟩) : SetV c (.ref i) (.int k) v ⟨loc, sto⟩ Q := by
  intro W env s A m hE hA hS hT
  obtain ⟨x, y, z, hx, hy, rv_, rfl⟩ := hT
  obtain ⟨t, rfl⟩ := int_of hy
  cases hx with
  | @ref _ a e1 =>
    have q := hS.1.at_ a
    rw [e1] at q
    obtain ⟨m, o, e2, e3, e4⟩ := q
    rw [hi] at e2; cases e2
    cases e4 with
    | @list _ xs n r =>
      have hl := r.length
      rw [Array.length_toList] at hl
      refine list_store e3 h0 (by omega) (by rw [hl]; exact hk) fun n' e' hs => ?_
      exact ⟨(), _, W, h, Le.refl W, trivial, hS.set (tk := s.toks) e1 hs e' (.list (by rw [Array.toList_setIfInBounds]; exact VRs.set rv_ _ r))⟩
end
/-! ranges, blocks over ranges and over lists -/
theorem rsize_up {a b : Int} {n : Nat} (h : b - a = n) : Builtin.Range.rangeSize a b 1 = n := by
  unfold Builtin.Range.rangeSize
  rw [if_pos (by decide)]
  split
  · rw [Int.ediv_one]; omega
  · omega
theorem Src_up {σ : St} {a b : Int} {n : Nat} (ha : -(2 ^ 60) ≤ a) (hb : b ≤ 2 ^ 60) (h : b - a = n) : Src σ (.rng a b 1) (.seq ((List.range n).map fun (k : Nat) => V.int (a + (k : Int) * 1))) :=
  .rng (small_one (by omega) (by omega) (by omega) (by omega)) (rsize_up h)

section
variable {c : Cx} {σ : St}
theorem comp_range {scope : Scope} {elt : Expr} {x : Str} {Q : V → St → Prop} {n : Nat} (cap : List (Str × V)) (f : Nat → V) (hn : n < 1000000) (hcap : ∀ p ∈ cap, σ.loc.lookup p.1 = some p.2 ∧ (relS scope c.scope).names.lookup p.1 ≠ some .local)
    (hitem : ∀ k, k < n → Ev (blk c scope) elt ⟨(x, .int k) :: cap, σ.sto⟩ fun r σ'' => r = f k ∧ σ''.sto = σ.sto ∧ Sub cap σ''.loc) (hQ : Q (.lst ((List.range n).map f)) σ) : CompGoal c scope elt x [] Q (.rng 0 n 1) σ := by
  refine ⟨_, _, cap, fun k => (List.range k).map f, Src_up (n := n) (by decide) (by omega) (by omega), rfl, by simpa using hn, hcap, rfl, fun k v hv => ?_, by simpa using hQ⟩
  have hb := (List.getElem?_eq_some_iff.mp hv).1
  simp only [List.length_map, List.length_range] at hb
  have e : v = .int k := by
    rw [List.getElem?_map, List.getElem?_range hb] at hv
    simp only [Option.map_some, Option.some.injEq] at hv
    rw [← hv]; congr 1; omega
  subst e
  refine Tests_nil ?_
  rw [if_pos rfl]
  refine (hitem k hb).mono fun r σ'' ⟨h1, h2, h3⟩ => ⟨h2, h3, ?_⟩
  dsimp only
  rw [List.range_succ, List.map_append, h1]; rfl
/-- a block over a list, each item taken -/
theorem comp_list {scope : Scope} {elt : Expr} {x : Str} {Q : V → St → Prop} {a : V} {vs : List V} (cap : List (Str × V)) (f : V → V) (ha : ListV σ a vs) (hn : vs.length < 1000000) (hcap : ∀ p ∈ cap, σ.loc.lookup p.1 = some p.2 ∧ (relS scope c.scope).names.lookup p.1 ≠ some .local)
    (hitem : ∀ v, v ∈ vs → Ev (blk c scope) elt ⟨(x, v) :: cap, σ.sto⟩ fun r σ'' => r = f v ∧ σ''.sto = σ.sto ∧ Sub cap σ''.loc) (hQ : Q (.lst (vs.map f)) σ) : CompGoal c scope elt x [] Q a σ := by
  have key : ∃ src, Src σ a src ∧ Items σ.sto src vs := by
    rcases ha with rfl | ⟨i, rfl, hi⟩
    · exact ⟨_, .lst vs, rfl⟩
    · exact ⟨_, .cell hi, hi⟩
  obtain ⟨src, h1, h2⟩ := key
  refine ⟨vs, src, cap, fun k => (vs.take k).map f, h1, h2, hn, hcap, rfl, fun k v hv => ?_, by simpa using hQ⟩
  refine Tests_nil ?_
  rw [if_pos rfl]
  refine (hitem v (List.mem_of_getElem? hv)).mono fun r σ'' ⟨h1, h2, h3⟩ => ⟨h2, h3, ?_⟩
  dsimp only
  rw [List.take_add_one, hv, List.map_append, h1]; rfl
/-- a block over a list, the items taken that pass the test -/
theorem comp_filter {scope : Scope} {elt t : Expr} {x : Str} {Q : V → St → Prop} {a : V} {vs : List V} {src : ISrc} (cap : List (Str × V)) (p : V → Bool) (f : V → V) (ha : Src σ a src) (hi : Items σ.sto src vs) (hn : vs.length < 1000000) (hcap : ∀ p ∈ cap, σ.loc.lookup p.1 = some p.2 ∧ (relS scope c.scope).names.lookup p.1 ≠ some .local)
    (hitem : ∀ v, v ∈ vs → Tst (blk c scope) t ⟨(x, v) :: cap, σ.sto⟩ fun b σ' => b = p v ∧ σ'.sto = σ.sto ∧ Sub cap σ'.loc ∧ (b = true → Ev (blk c scope) elt σ' fun r σ'' => r = f v ∧ σ''.sto = σ.sto ∧ Sub cap σ''.loc)) (hQ : Q (.lst ((vs.filter p).map f)) σ) : CompGoal c scope elt x [t] Q a σ := by
  refine ⟨vs, src, cap, fun k => ((vs.take k).filter p).map f, ha, hi, hn, hcap, rfl, fun k v hv => ?_, by simpa using hQ⟩
  refine Tests_one ((hitem v (List.mem_of_getElem? hv)).mono fun b σ' ⟨h1, h2, h3, h4⟩ => ?_)
  dsimp only
  rw [List.take_add_one, hv]
  simp only [Option.toList_some, List.filter_append, List.map_append]
  cases b
  · rw [if_neg (by simp)]
    exact ⟨h2, h3, by rw [List.filter_cons_of_neg (by rw [← h1]; simp)]; simp⟩
  · rw [if_pos rfl]
    refine (h4 rfl).mono fun r σ'' ⟨g1, g2, g3⟩ => ⟨g2, g3, ?_⟩
    rw [List.filter_cons_of_pos h1.symm, g1]; rfl
end
theorem cap_nil {c : Cx} {σ : St} {scope : Scope} : ∀ p ∈ ([] : List (Str × V)), σ.loc.lookup p.1 = some p.2 ∧ (relS scope c.scope).names.lookup p.1 ≠ some .local := fun _ h => nomatch h
def notLocal (sc : Scope) (x : Str) : Bool := !(sc.names.lookup x == some .local)
theorem cap_cons {c : Cx} {σ : St} {scope : Scope} {x : Str} {v : V} {cap : List (Str × V)} (h : σ.loc.lookup x = some v) (k : notLocal (relS scope c.scope) x = true) (r : ∀ p ∈ cap, σ.loc.lookup p.1 = some p.2 ∧ (relS scope c.scope).names.lookup p.1 ≠ some .local) :
    ∀ p ∈ (x, v) :: cap, σ.loc.lookup p.1 = some p.2 ∧ (relS scope c.scope).names.lookup p.1 ≠ some .local := fun p hp => by
  rcases List.mem_cons.mp hp with rfl | hp
  · refine ⟨h, fun e => ?_⟩
    unfold notLocal at k
    rw [e] at k
    simp at k
  · exact r p hp
theorem Sub.drop {l l' : List (Str × V)} {x : Str} {v : V} (h : Sub l' l) (k : l'.lookup x = none) : Sub l' ((x, v) :: l) := fun p hp => by
  by_cases e : p.1 = x
  · exfalso
    have : (l'.lookup x).isSome = true := by
      have : ∀ l : List (Str × V), p ∈ l → (l.lookup p.1).isSome = true := by
        intro l
        induction l with
        | nil => intro h; cases h
        | cons q r ih =>
          intro h
          obtain ⟨n, u⟩ := q
          by_cases hn : p.1 = n
          · rw [hn, lookup_cons_self]; rfl
          · rw [lookup_cons_ne _ _ hn]
            rcases List.mem_cons.mp h with rfl | h
            · exact absurd rfl hn
            · exact ih h
      rw [← e]; exact this l' hp
    rw [k] at this; cases this
  · rw [lookup_cons_ne _ _ e]; exact h p hp
theorem ints_get (ns : List Int) (k : Nat) (hk : k < ns.length) : itemAt (ns.map V.int) (k : Int) = some (.int ns[k]) := by
  unfold itemAt
  rw [if_pos (by omega)]
  simp [hk]
theorem slc_map {α β : Type} (f : α → β) (xs : List α) (lo hi st : Option Int) : slc (xs.map f) lo hi st = (slc xs lo hi st).map f := by
  unfold slc
  rw [List.length_map, List.map_filterMap]
  congr 1
  funext k
  rw [List.getElem?_map]
theorem ok_ints (n : Nat) (ns : List Int) : (V.lst (ns.map V.int)).ok (n + 1) = true := by
  simp only [V.ok, List.all_map, List.all_eq_true]
  intro x _
  cases n <;> rfl
theorem map_int_inj {xs ys : List Int} : xs.map V.int = ys.map V.int ↔ xs = ys := by
  constructor
  · intro h
    exact (List.map_inj_right (fun a b e => by injection e)).mp h
  · rintro rfl; rfl
/-! cuts -/
theorem pick_run {α : Type} (xs : List α) (a m : Nat) : ((List.range m).map (a + ·)).filterMap (xs[·]?) = (xs.drop a).take m := by
  induction m with
  | zero => rfl
  | succ m ih =>
    rw [List.range_succ, List.map_append, List.filterMap_append, ih, List.take_add_one, List.getElem?_drop]
    cases h : xs[a + m]? with
    | none => simp [h]
    | some x => simp [h]
theorem slc_eq {α : Type} (xs : List α) {lo hi : Option Int} {a b : Nat} (h : sliceBounds lo hi none xs.length = ((a : Int), (b : Int), 1)) : slc xs lo hi none = (xs.drop a).take (b - a) := by
  unfold slc
  rw [h]
  dsimp only
  rw [sliceRange_one, pick_run]
theorem slc_to {α : Type} (xs : List α) (k : Nat) : slc xs none (some (k : Int)) none = xs.take k := by
  rw [slc_eq xs (a := 0) (b := min k xs.length) (by unfold sliceBounds; simp; omega)]
  rw [List.drop_zero, Nat.sub_zero]
  rcases Nat.le_total k xs.length with h | h
  · rw [Nat.min_eq_left h]
  · rw [Nat.min_eq_right h, List.take_of_length_le (Nat.le_refl _), List.take_of_length_le h]
theorem slc_from {α : Type} (xs : List α) (k : Nat) : slc xs (some (k : Int)) none none = xs.drop k := by
  rw [slc_eq xs (a := min k xs.length) (b := xs.length) (by unfold sliceBounds; simp; omega)]
  rcases Nat.le_total k xs.length with h | h
  · rw [Nat.min_eq_left h, List.take_of_length_le (by rw [List.length_drop]; omega)]
  · rw [Nat.min_eq_right h, List.drop_eq_nil_of_le (Nat.le_refl _), List.drop_eq_nil_of_le h, List.take_nil]
theorem slc_mid {α : Type} (xs : List α) (i j : Nat) (hj : j ≤ xs.length) : slc xs (some (i : Int)) (some (j : Int)) none = (xs.take j).drop i := by
  rw [slc_eq xs (a := min i xs.length) (b := j) (by unfold sliceBounds; simp; omega), List.drop_take]
  rcases Nat.le_total i xs.length with h | h
  · rw [Nat.min_eq_left h]
  · rw [Nat.min_eq_right h, List.drop_eq_nil_of_le (Nat.le_refl _), List.drop_eq_nil_of_le h, List.take_nil, List.take_nil]
theorem slc_to_neg {α : Type} (xs : List α) (k : Nat) (hk : 0 < k) : slc xs none (some (-(k : Int))) none = xs.take (xs.length - k) := by
  rw [slc_eq xs (a := 0) (b := xs.length - k) (by unfold sliceBounds; simp [hk]; omega)]
  rw [List.drop_zero, Nat.sub_zero]
theorem slc_rev {α : Type} (xs : List α) : slc xs none none (some (-1)) = xs.reverse := by
  unfold slc
  have e : sliceBounds none none (some (-1)) xs.length = ((xs.length : Int) - 1, -1, -1) := krv_bounds _
  rw [e]
  dsimp only
  rw [krv_sliceRange]
  have e1 : (List.range xs.length).map (fun k => xs.length - 1 - k) = (List.range xs.length).reverse := by
    apply List.ext_getElem
    · simp
    · intro i h1 h2
      simp
  rw [e1, List.filterMap_reverse]
  congr 1
  have := pick_run xs 0 xs.length
  simpa using this
theorem Ev_cut {c : Cx} {e : Expr} {σ : St} {P Q : V → St → Prop} (h : Ev c e σ P) (k : ∀ v σ', P v σ' → Q v σ') : Ev c e σ Q := DoG.mono h k
theorem Ex_cut {c : Cx} {st : Stmt} {σ : St} {P Q : Fl → St → Prop} (h : Ex c st σ P) (k : ∀ v σ', P v σ' → Q v σ') : Ex c st σ Q := DoG.mono h k
theorem Tst_cut {c : Cx} {e : Expr} {σ : St} {P Q : Bool → St → Prop} (h : Tst c e σ P) (k : ∀ v σ', P v σ' → Q v σ') : Tst c e σ Q := DoG.mono h k
theorem Exs_sub {c : Cx} {sts : List Stmt} {l l' : List (Str × V)} {sto : List MO} {Q : Fl → St → Prop} (k : Sub l' l) (h : Exs c sts ⟨l', sto⟩ Q) : Exs c sts ⟨l, sto⟩ Q := DoG.sub h k
theorem Cmp_ne_same {c : Cx} {σ : St} {a b d : V} {Q : V → St → Prop} (ha : Rd σ a d) (hb : Rd σ b d) (h : Q (.bool false) σ) : CmpV c .NotEq a b σ Q :=
  Cmp_ne ha hb fun r hr => by
    cases r
    · exact h
    · exact absurd rfl (hr.mp rfl)
theorem Cmp_eq_same {c : Cx} {σ : St} {a b d : V} {Q : V → St → Prop} (ha : Rd σ a d) (hb : Rd σ b d) (h : Q (.bool true) σ) : CmpV c .Eq a b σ Q :=
  Cmp_eq ha hb fun r hr => by
    cases r
    · exact absurd (hr.mpr rfl) (by simp)
    · exact h
theorem Cmp_nei_same {c : Cx} {σ : St} {a : Int} {Q : V → St → Prop} (h : Q (.bool false) σ) : CmpV c .NotEq (.int a) (.int a) σ Q := Cmp_ne_same (Rd.data rfl) (Rd.data rfl) h
theorem Call_max {c : Cx} {σ : St} {a : V} {ns : List Int} {Q : V → St → Prop} (ha : ListV σ a (ns.map V.int)) (hne : 0 < ns.length) (h : ∀ m, m ∈ ns → (∀ x ∈ ns, x ≤ m) → Q (.int m) σ) : CallV c (.builtin "max") [a] σ Q := by
  intro W env s A m hE hA hS hT
  obtain ⟨xs, hx, rfl⟩ := hT
  obtain ⟨x, rfl, r⟩ := one_of hx
  obtain ⟨l, xs, rfl, hl, rl⟩ := ha.get r hS
  obtain ⟨ps, e1, rfl⟩ := ints_items rl
  have e2 : xs = intItems ps.toArray := by
    apply Array.toList_inj.mp
    rw [e1]; simp [intItems]
  subst e2
  rw [List.length_map] at hne
  have hnum : ∀ i, i < ps.length → numAt ps.toArray i = (ps.map (·.1))[i]?.getD 0 := fun i hi => by simp [numAt]
  refine max_intList hA.1 hl (by simpa using hne) fun v h' tk hv hk => ?_
  have q := argBest_gt (numAt ps.toArray) (ps.toArray.size - 1)
  generalize hb : argBest (fun i j => decide (numAt ps.toArray i > numAt ps.toArray j)) (ps.toArray.size - 1) = b at q hv
  rw [List.size_toArray] at q
  have hbl : b < ps.length := by omega
  obtain ⟨t, rfl⟩ := intItems_at hv
  refine ⟨.int (numAt ps.toArray b), σ, W, h _ ?_ (fun x hx => ?_), Le.refl W, .int _ _, hS.keeps hk⟩
  · rw [hnum b hbl, List.getElem?_eq_getElem (by simpa using hbl), Option.getD_some]
    exact List.getElem_mem _
  · obtain ⟨j, hj, rfl⟩ := List.getElem_of_mem hx
    rw [List.length_map] at hj
    have := q.2 j (by omega)
    rw [hnum j hj, List.getElem?_eq_getElem (by simpa using hj), Option.getD_some] at this
    exact this
/-- a name of the module that stands for data -/
theorem Ev_data {c : Cx} {σ : St} {x : Str} {pos : Pos} {v : Value} {d : V} {Q : V → St → Prop} (hx : c.G.mg x = some v) (hl : isGlob c.scope x = true) (hd : ∀ W : Wd, (∀ a o, c.G.s0.heap.get? a = some o → W a = .froz o) → VR c.G.w W d v) (h : Q d σ) : Ev c (.Name x pos) σ Q := by
  intro W env s A m hE hA hS hT
  refine seq1 (Ev_glob (pos := pos) (Q := fun v' σ' => v' = .con v ∧ σ' = σ) hx hl ⟨rfl, rfl⟩) hE hA hS hT fun v' σ' W' x' s' q l r S => ?_
  obtain ⟨rfl, rfl⟩ := q
  cases r
  exact ⟨d, _, W', h, l, hd W' S.1.base, S⟩
theorem ok_two {c : Cx} {x y : Str} (h : isOk c.scope c.own x = true) (k : isOk c.scope c.own y = true) : ∀ n ∈ [x, y], Ok c n := by
  intro n hn
  rcases List.mem_cons.mp hn with rfl | hn
  · exact Ok.of h
  rcases List.mem_cons.mp hn with rfl | hn
  · exact Ok.of k
  · cases hn
theorem Asg_sub {c : Cx} {e : Expr} {v : V} {l l' : List (Str × V)} {sto : List MO} {Q : Unit → St → Prop} (k : Sub l' l) (h : Asg c e v ⟨l', sto⟩ Q) : Asg c e v ⟨l, sto⟩ Q := DoG.sub h k
/-! dictionaries of the store whose keys are ints -/
def ikv (es : List (Int × V)) : List (V × V) := es.map fun p => (.int p.1, p.2)
def dput (es : List (Int × V)) (k : Int) (v : V) : List (Int × V) := if es.any (fun p => p.1 = k) then es.map (fun p => if p.1 = k then (p.1, v) else p) else es ++ [(k, v)]
inductive IV (w : World) (W : Wd) : List (Int × V) → List (Int × Value) → Prop
  | nil : IV w W [] []
  | cons {k : Int} {v : V} {x : Value} {l : List (Int × V)} {m : List (Int × Value)} : VR w W v x → IV w W l m → IV w W ((k, v) :: l) ((k, x) :: m)
def IKeys (es : List DictEntry) : Prop := ∀ e ∈ es, ∃ k, Value.isInt k e.key = true ∧ e.hash = hashInt k
theorem drs_iv {prog : Program} {w : World} {W : Wd} : ∀ {es : List (Int × V)} {ents : List DictEntry}, DRs w W (ikv es) ents → ∃ kvs, IV w W es kvs ∧ Pairs (intKind prog w) ents kvs ∧ IKeys ents
  | [], _, h => by cases h; exact ⟨[], .nil, .nil, fun _ h => nomatch h⟩
  | (k, v) :: es, _, h => by
    cases h with
    | @int _ t _ x _ ents' r rs =>
      obtain ⟨kvs, h1, h2, h3⟩ := drs_iv (prog := prog) rs
      refine ⟨(k, x) :: kvs, .cons r h1, .cons (by simp [intKind, Value.isInt]) rfl h2, fun e he => ?_⟩
      rcases List.mem_cons.mp he with rfl | he
      · exact ⟨k, by simp [Value.isInt], rfl⟩
      · exact h3 e he
theorem iv_drs {prog : Program} {w : World} {W : Wd} : ∀ {es : List (Int × V)} {kvs : List (Int × Value)} {ents : List DictEntry}, IV w W es kvs → Pairs (intKind prog w) ents kvs → IKeys ents → DRs w W (ikv es) ents
  | _, _, _, .nil, .nil, _ => .nil
  | _, _, _, .cons r rs, @Pairs.cons _ _ _ _ _ e _ es _ a b c, hk => by
    obtain ⟨t, ht⟩ := Value.isInt_shape (a : Value.isInt _ e.key = true)
    obtain ⟨k', h1, h2⟩ := hk e (.head _)
    rw [ht] at h1
    have hkk : k' = _ := Value.isInt_inj _ _ _ h1 (ht ▸ a)
    subst hkk
    obtain ⟨hash, key, val⟩ := e
    dsimp only at ht h2 b
    subst ht h2 b
    exact .int r (iv_drs rs c fun e he => hk e (.tail _ he))
theorem IV.keys {w : World} {W : Wd} : ∀ {es : List (Int × V)} {kvs : List (Int × Value)}, IV w W es kvs → kvs.map (·.1) = es.map (·.1)
  | _, _, .nil => rfl
  | _, _, .cons _ b => by rw [List.map_cons, List.map_cons, b.keys]
theorem IV.append {w : World} {W : Wd} {k : Int} {v : V} {x : Value} (r : VR w W v x) : ∀ {es : List (Int × V)} {kvs : List (Int × Value)}, IV w W es kvs → IV w W (es ++ [(k, v)]) (kvs ++ [(k, x)])
  | _, _, .nil => .cons r .nil
  | _, _, .cons a b => .cons a (b.append r)
theorem IV.over {w : World} {W : Wd} {k : Int} {v : V} {x : Value} (r : VR w W v x) : ∀ {es : List (Int × V)} {kvs : List (Int × Value)}, IV w W es kvs → IV w W (es.map fun p => if p.1 = k then (p.1, v) else p) (kvs.map fun p => if p.1 = k then (p.1, x) else p)
  | _, _, .nil => .nil
  | _, _, @IV.cons _ _ j _ _ _ _ a b => by
    rw [List.map_cons, List.map_cons]
    by_cases h : j = k
    · rw [if_pos h, if_pos h]; exact .cons r (b.over r)
    · rw [if_neg h, if_neg h]; exact .cons a (b.over r)
theorem IV.any {w : World} {W : Wd} {k : Int} : ∀ {es : List (Int × V)} {kvs : List (Int × Value)}, IV w W es kvs → (kvs.any fun p => p.1 = k) = es.any fun p => p.1 = k
  | _, _, .nil => rfl
  | _, _, .cons _ b => by rw [List.any_cons, List.any_cons, b.any]
theorem IV.stored {w : World} {W : Wd} {k : Int} {v : V} {x : Value} (r : VR w W v x) {es : List (Int × V)} {kvs : List (Int × Value)} (h : IV w W es kvs) : IV w W (dput es k v) (stored kvs k x) := by
  unfold dput PySem.stored
  rw [h.any]
  split
  · exact h.over r
  · exact h.append r
theorem IV.length {w : World} {W : Wd} : ∀ {es : List (Int × V)} {kvs : List (Int × Value)}, IV w W es kvs → kvs.length = es.length
  | _, _, .nil => rfl
  | _, _, .cons _ b => by rw [List.length_cons, List.length_cons, b.length]

section
variable {c : Cx} {σ : St}
theorem Ev_dctC {pos : Pos} {Q : V → St → Prop} (h : Q (.ref σ.sto.length) ⟨σ.loc, σ.sto ++ [.dict []]⟩) : Ev c (.Dict [] [] pos) σ Q := by
  intro W env s A m hE hA hS hT
  subst hT
  obtain ⟨S₂, l₂⟩ := Sim.newCell (o := dctO #[] 0) (m := .dict []) hS rfl (.dict .nil)
  exact wpAny_Dict_empty ⟨_, _, _, h, l₂, .ref (Wd.put_self _ _ _), S₂⟩
/-- a dictionary's cell as the library sees it -/
theorem dict_at {W : Wd} {env : Env} {s : Shared} {i : Nat} {a : Addr} {es : List (Int × V)} (S : Sim c W env σ s) (ha : W a = .cell i) (hi : σ.sto[i]? = some (.dict (ikv es))) (hn : (es.map (·.1)).Nodup) :
    ∃ kvs, IV c.G.w W es kvs ∧ s.heap.DictOf (intKind c.G.prog c.G.w) a kvs := by
  have q := S.1.at_ a
  rw [ha] at q
  obtain ⟨m, o, e1, e2, e3⟩ := q
  rw [hi] at e1; cases e1
  cases e3 with
  | @dict _ ents n r =>
    obtain ⟨kvs, h1, h2, h3⟩ := drs_iv (prog := c.G.prog) r
    exact ⟨kvs, h1, _, ents, n, e2, ⟨rfl, rfl, rfl⟩, rfl, fun e he => h3 e (Array.mem_toList_iff.mpr he), h2, by rw [h1.keys]; exact hn⟩
theorem Set_dict {i : Nat} {es : List (Int × V)} {k : Int} {v : V} {loc : List (Str × V)} {sto : List MO} {Q : Unit → St → Prop} (hi : sto[i]? = some (.dict (ikv es))) (hn : (es.map (·.1)).Nodup) (hz : es.length < 1000000) (h : Q () ⟨loc, sto.set i (.dict (ikv (dput es k v)))⟩) : SetV c (.ref i) (.int k) v ⟨loc, sto⟩ Q := by
  intro W env s A m hE hA hS hT
  obtain ⟨x, y, z, hx, hy, rv_, rfl⟩ := hT
  obtain ⟨t, rfl⟩ := int_of hy
  cases hx with
  | @ref _ a e1 =>
    obtain ⟨kvs, h1, h2⟩ := dict_at hS e1 hi hn
    refine wpAny_setItem_pairs (knd := intKind c.G.prog c.G.w) (k := k) (intKind_is _ _ _ _) h2 (fun h' hd hs => ?_) (by rw [h1.length, sizeLine_eq]; omega)
    obtain ⟨o', ents, ep, ho, ⟨hc1, hc2, hc3⟩, hd', hk, hp, -⟩ := hd
    have ho' : o' = dctO ents ep := by
      obtain ⟨a1, a2, a3, a4⟩ := o'
      dsimp only at hc1 hc2 hc3 hd'
      subst hc1 hc2 hc3 hd'
      rfl
    subst ho'
    exact ⟨(), _, W, h, Le.refl W, trivial, hS.set e1 hs ho (.dict (iv_drs (h1.stored rv_) hp fun e he => hk e (Array.mem_toList_iff.mp he)))⟩
end
theorem value_at {w : World} {W : Wd} {k x : Int} : ∀ {es : List (Int × Int)} {kvs : List (Int × Value)}, IV w W (es.map fun p => (p.1, V.int p.2)) kvs → (es.map (·.1)).Nodup → (k, x) ∈ es → ∃ t, valueAt kvs k = some (.int x t)
  | [], _, _, _, h => nomatch h
  | (j, y) :: es, _, .cons a b, hn, h => by
    cases a
    rename_i t
    rw [List.map_cons, List.nodup_cons] at hn
    rcases List.mem_cons.mp h with e | h
    · cases e
      exact ⟨t, by simp [valueAt]⟩
    · have hj : j ≠ k := by
        rintro rfl
        exact hn.1 (List.mem_map.mpr ⟨_, h, rfl⟩)
      obtain ⟨u, hu⟩ := value_at b hn.2 h
      refine ⟨u, ?_⟩
      unfold valueAt at hu ⊢
      rw [List.find?_cons_of_neg (by simpa using hj)]
      exact hu
theorem hits_same {A : Around} {s : Shared} {w : World} {W : Wd} {all : List (Int × Int)} {kb : List (Int × Value)} (hb : IV w W (all.map fun p => (p.1, V.int p.2)) kb) (hn : (all.map (·.1)).Nodup) : ∀ {es : List (Int × Int)} {ka : List (Int × Value)}, IV w W (es.map fun p => (p.1, V.int p.2)) ka → (∀ p ∈ es, p ∈ all) → KeqHits A s kb ka true
  | [], _, .nil, _ => .nil
  | (k, x) :: es, _, .cons a b, h => by
    cases a
    rename_i t
    obtain ⟨u, hu⟩ := value_at hb hn (h (k, x) (.head _))
    have e := SeqAt.EqAt.int_int (A := A) (s := s) x t x u
    rw [show (x == x) = true from by simp] at e
    have := KeqHits.hit (k := k) (r := _) hu e (hits_same hb hn b fun p hp => h p (.tail _ hp))
    exact this
theorem Cmp_eq_dict {c : Cx} {σ : St} {i j : Nat} {es : List (Int × Int)} {Q : V → St → Prop} (hi : σ.sto[i]? = some (.dict (ikv (es.map fun p => (p.1, V.int p.2))))) (hj : σ.sto[j]? = some (.dict (ikv (es.map fun p => (p.1, V.int p.2))))) (hn : (es.map (·.1)).Nodup)
    (h : Q (.bool true) σ) : CmpV c .Eq (.ref i) (.ref j) σ Q := by
  intro W env s A m hE hA hS hT
  obtain ⟨x, y, hx, hy, rfl⟩ := hT
  have hn' : ((es.map fun p => (p.1, V.int p.2)).map (·.1)).Nodup := by rw [List.map_map]; exact hn
  cases hx with
  | @ref _ a e1 =>
    cases hy with
    | @ref _ b e2 =>
      obtain ⟨ka, h1, h2⟩ := dict_at hS e1 hi hn'
      obtain ⟨kb, h3, h4⟩ := dict_at hS e2 hj hn'
      have la := hS.1.low a _ e1
      have lb := hS.1.low b _ e2
      have na : (a == sysModules) = false := by rw [beq_eq_false_iff_ne]; exact Nat.ne_of_gt la
      have nb : (b == sysModules) = false := by rw [beq_eq_false_iff_ne]; exact Nat.ne_of_gt lb
      refine keq_eq na nb h2 h4 (by have := hA.2.2; show A.units < 9900; omega) (fun _ => hits_same h3 hn h1 fun p hp => hp) ?_
      rw [h1.length, h3.length, Bool.and_true, show ∀ n : Nat, (n == n) = true from fun n => by simp]
      exact ⟨_, σ, W, h, Le.refl W, .bool _, hS⟩
/-! dictionaries whose keys are ints and texts -/
abbrev IK := Int ⊕ Str
def mixIs : IK → Value → Bool
  | .inl i, v => Value.isInt i v
  | .inr x, v => Value.isStrOf x v
def mixHash (w : World) : IK → Int
  | .inl i => hashInt i
  | .inr x => hashStr w x
def mixKind (prog : Program) (w : World) : KeyKind prog w IK where
  is := mixIs
  hash := mixHash w
  inj := fun v a b ha hb => by
    cases a with
    | inl i =>
      obtain ⟨t, rfl⟩ := Value.isInt_shape (ha : Value.isInt i v = true)
      cases b with
      | inl j => exact congrArg Sum.inl (Value.isInt_inj (.int i t) i j ha hb)
      | inr y => exact absurd hb (by simp [mixIs, Value.isStrOf])
    | inr x =>
      obtain ⟨t, rfl⟩ := Value.isStrOf_shape (ha : Value.isStrOf x v = true)
      cases b with
      | inl j => exact absurd hb (by simp [mixIs, Value.isInt])
      | inr y => exact congrArg Sum.inr (Value.isStrOf_inj (.str x t) x y ha hb)
  byValue := fun k v h => by
    cases k with
    | inl i => obtain ⟨t, rfl⟩ := Value.isInt_shape (h : Value.isInt i v = true); rfl
    | inr x => obtain ⟨t, rfl⟩ := Value.isStrOf_shape (h : Value.isStrOf x v = true); rfl
  pyHash := fun {A E s k v Q} hv h => by
    cases k with
    | inl i => obtain ⟨t, rfl⟩ := Value.isInt_shape (hv : Value.isInt i v = true); exact wpAny_pyHash_int h
    | inr x => obtain ⟨t, rfl⟩ := Value.isStrOf_shape (hv : Value.isStrOf x v = true); exact wpAny_pyHash_str h
  eqBool := fun {A E s a b u v Q} hu hv h => by
    cases a with
    | inl i =>
      obtain ⟨t, rfl⟩ := Value.isInt_shape (hu : Value.isInt i u = true)
      cases b with
      | inl j =>
        obtain ⟨t', rfl⟩ := Value.isInt_shape (hv : Value.isInt j v = true)
        have e : decide ((Sum.inl i : IK) = .inl j) = (i == j) := by
          by_cases hij : i = j <;> simp [hij]
        rw [e] at h
        exact wpAny_eqBool_int h
      | inr y =>
        obtain ⟨t', rfl⟩ := Value.isStrOf_shape (hv : Value.isStrOf y v = true)
        have e : decide ((Sum.inl i : IK) = .inr y) = false := by simp
        rw [e] at h
        exact SeqAt.EqAt.int_str i t y t' prog w E Q h
    | inr x =>
      obtain ⟨t, rfl⟩ := Value.isStrOf_shape (hu : Value.isStrOf x u = true)
      cases b with
      | inl j =>
        obtain ⟨t', rfl⟩ := Value.isInt_shape (hv : Value.isInt j v = true)
        have e : decide ((Sum.inr x : IK) = .inl j) = false := by simp
        rw [e] at h
        exact SeqAt.EqAt.str_int x t j t' prog w E Q h
      | inr y =>
        obtain ⟨t', rfl⟩ := Value.isStrOf_shape (hv : Value.isStrOf y v = true)
        have e : decide ((Sum.inr x : IK) = .inr y) = decide (x = y) := by simp
        rw [e] at h
        exact wpAny_eqBool_str h
  «strs» := fun k x t v h => by
    cases k with
    | inl i => exact absurd h (by simp [mixIs, Value.isInt])
    | inr y =>
      obtain ⟨u, hu⟩ := Value.isStrOf_shape (x := y) (v := .str x t) h
      injection hu with hx
      subst hx
      cases v <;> rfl
def kV : IK → V
  | .inl i => .int i
  | .inr x => .str x
/-- the pairs of a dictionary -/
def mkv (es : List (IK × V)) : List (V × V) := es.map fun p => (kV p.1, p.2)
inductive MV (w : World) (W : Wd) : List (IK × V) → List (IK × Value) → Prop
  | nil : MV w W [] []
  | cons {k : IK} {v : V} {x : Value} {l : List (IK × V)} {m : List (IK × Value)} : VR w W v x → MV w W l m → MV w W ((k, v) :: l) ((k, x) :: m)
def MKeys (w : World) (es : List DictEntry) : Prop := ∀ e ∈ es, ∃ k, mixIs k e.key = true ∧ e.hash = mixHash w k
theorem drs_mv {prog : Program} {w : World} {W : Wd} : ∀ {es : List (IK × V)} {ents : List DictEntry}, DRs w W (mkv es) ents → ∃ kvs, MV w W es kvs ∧ Pairs (mixKind prog w) ents kvs ∧ MKeys w ents
  | [], _, h => by cases h; exact ⟨[], .nil, .nil, fun _ h => nomatch h⟩
  | (.inl k, v) :: es, _, h => by
    cases h with
    | @int _ t _ x _ ents' r rs =>
      obtain ⟨kvs, h1, h2, h3⟩ := drs_mv (prog := prog) rs
      refine ⟨(.inl k, x) :: kvs, .cons r h1, .cons (by simp [mixKind, mixIs, Value.isInt]) rfl h2, fun e he => ?_⟩
      rcases List.mem_cons.mp he with rfl | he
      · exact ⟨.inl k, by simp [mixIs, Value.isInt], rfl⟩
      · exact h3 e he
  | (.inr k, v) :: es, _, h => by
    cases h with
    | @str _ t _ x _ ents' r rs =>
      obtain ⟨kvs, h1, h2, h3⟩ := drs_mv (prog := prog) rs
      refine ⟨(.inr k, x) :: kvs, .cons r h1, .cons (by simp [mixKind, mixIs, Value.isStrOf]) rfl h2, fun e he => ?_⟩
      rcases List.mem_cons.mp he with rfl | he
      · exact ⟨.inr k, by simp [mixIs, Value.isStrOf], rfl⟩
      · exact h3 e he
theorem MV.keys {w : World} {W : Wd} : ∀ {es : List (IK × V)} {kvs : List (IK × Value)}, MV w W es kvs → kvs.map (·.1) = es.map (·.1)
  | _, _, .nil => rfl
  | _, _, .cons _ b => by rw [List.map_cons, List.map_cons, b.keys]
theorem MV.find {w : World} {W : Wd} (k : IK) : ∀ {es : List (IK × V)} {kvs : List (IK × Value)}, MV w W es kvs → match (es.find? fun p => p.1 = k) with
    | some p => ∃ x, valueAt kvs k = some x ∧ VR w W p.2 x
    | none => valueAt kvs k = none
  | _, _, .nil => rfl
  | _, _, @MV.cons _ _ j v x l m a b => by
    by_cases h : j = k
    · rw [List.find?_cons_of_pos (by simpa using h)]
      exact ⟨x, by simp [valueAt, h], a⟩
    · rw [List.find?_cons_of_neg (by simpa using h)]
      have e : valueAt ((j, x) :: m) k = valueAt m k := by
        unfold valueAt
        rw [List.find?_cons_of_neg (by simpa using h)]
      rw [e]
      exact b.find k
theorem key_is {prog : Program} {w : World} {W : Wd} {k : IK} {x : Value} (h : VR w W (kV k) x) : (mixKind prog w).is k x = true := by
  cases k with
  | inl i => cases h; simp [mixKind, mixIs, Value.isInt]
  | inr y => cases h; simp [mixKind, mixIs, Value.isStrOf]
section
variable {c : Cx} {σ : St}
theorem dct_at {W : Wd} {env : Env} {s : Shared} {x : Value} {es : List (IK × V)} (S : Sim c W env σ s) (r : VR c.G.w W (.dct (mkv es)) x) (hn : (es.map (·.1)).Nodup) :
    ∃ a kvs, x = .ref a ∧ (a == sysModules) = false ∧ MV c.G.w W es kvs ∧ s.heap.DictOf (mixKind c.G.prog c.G.w) a kvs := by
  cases r with
  | @dct a ents n _ e lo r =>
    obtain ⟨kvs, h1, h2, h3⟩ := drs_mv (prog := c.G.prog) r
    have q := S.1.at_ a
    rw [e] at q
    exact ⟨a, kvs, rfl, by rw [beq_eq_false_iff_ne]; exact Nat.ne_of_gt lo, h1, _, ents, n, q, ⟨rfl, rfl, rfl⟩, rfl, fun e he => h3 e (Array.mem_toList_iff.mpr he), h2, by rw [h1.keys]; exact hn⟩
theorem Cmp_in_dct {k : IK} {es : List (IK × V)} {Q : V → St → Prop} (hn : (es.map (·.1)).Nodup) (h : Q (.bool (es.any fun p => p.1 = k)) σ) : CmpV c .In (kV k) (.dct (mkv es)) σ Q := by
  intro W env s A m hE hA hS hT
  obtain ⟨x, y, hx, hy, rfl⟩ := hT
  obtain ⟨a, kvs, rfl, ha, h1, h2⟩ := dct_at hS hy hn
  refine wpAny_in_of (knd := mixKind c.G.prog c.G.w) (key_is hx) ha h2.mapOf ?_
  have e : (valueAt kvs k).isSome = es.any fun p => p.1 = k := by
    have q := h1.find k
    cases hf : es.find? fun p => p.1 = k with
    | some p =>
      rw [hf] at q
      obtain ⟨x, hx, _⟩ := q
      rw [hx]
      have : (es.any fun p => p.1 = k) = true := List.any_eq_true.mpr ⟨p, List.mem_of_find?_eq_some hf, by simpa using List.find?_some hf⟩
      rw [this]; rfl
    | none =>
      rw [hf] at q
      rw [q]
      have : (es.any fun p => p.1 = k) = false := by
        rw [List.any_eq_false]
        intro p hp
        exact List.find?_eq_none.mp hf p hp
      rw [this]; rfl
  rw [e]
  exact ⟨_, σ, W, h, Le.refl W, .bool _, hS.toks⟩
theorem Sub_dct {value slice : Expr} {k : IK} {es : List (IK × V)} {v : V} {Q : V → St → Prop} (hn : (es.map (·.1)).Nodup) (hv : (es.find? fun p => p.1 = k) = some (k, v)) (h : Q v σ) : SubV c value slice (.dct (mkv es)) (kV k) σ Q := by
  intro W env s A m hE hA hS hT
  obtain ⟨x, y, hx, hy, rfl⟩ := hT
  obtain ⟨a, kvs, rfl, ha, h1, h2⟩ := dct_at hS hx hn
  obtain ⟨ops, hs⟩ := plainSub slice (.ref a) y
  have q := h1.find k
  rw [hv] at q
  obtain ⟨z, hz, rz⟩ := q
  refine tail_any (T := "dict") h2.typeIs slot_dict_getitem.lookup ?_ hs
  refine (wpAny_getItem_of (knd := mixKind c.G.prog c.G.w) (key_is hy) h2.mapOf hz ⟨v, σ, W, h, Le.refl W, rz, hS.toks⟩)
end
/-! a display of pairs -/
inductive PV (w : World) (W : Wd) : List (IK × V) → List (Value × Value) → Prop
  | nil : PV w W [] []
  | cons {k : IK} {v : V} {x y : Value} {l : List (IK × V)} {m : List (Value × Value)} : VR w W (kV k) x → VR w W v y → PV w W l m → PV w W ((k, v) :: l) ((x, y) :: m)
theorem PV.mono {w : World} {W W' : Wd} (q : Leq W W') : ∀ {l : List (IK × V)} {m : List (Value × Value)}, PV w W l m → PV w W' l m
  | _, _, .nil => .nil
  | _, _, .cons a b r => .cons (a.mono q) (b.mono q) (r.mono q)
theorem PV.out {w : World} {W : Wd} (prog : Program) : ∀ {l : List (IK × V)} {m : List (Value × Value)}, PV w W l m → ∃ kvs, Carries (mixKind prog w) m kvs ∧ MV w W l kvs
  | _, _, .nil => ⟨[], trivial, .nil⟩
  | _, _, @PV.cons _ _ k v x y l m a b r => by
    obtain ⟨kvs, h1, h2⟩ := PV.out prog r
    exact ⟨(k, y) :: kvs, ⟨key_is a, rfl, h1⟩, .cons b h2⟩
theorem merged_nodup {K : Type} [DecidableEq K] : ∀ (kvs acc : List (K × Value)), ((acc ++ kvs).map (·.1)).Nodup → merged acc kvs = acc ++ kvs
  | [], acc, _ => by simp [merged]
  | (k, v) :: kvs, acc, h => by
    have e : acc ++ (k, v) :: kvs = (acc ++ [(k, v)]) ++ kvs := by simp
    have hs : stored acc k v = acc ++ [(k, v)] := by
      unfold stored
      rw [if_neg]
      intro hany
      obtain ⟨p, hp, hk⟩ := List.any_eq_true.mp hany
      have hk' : p.1 = k := by simpa using hk
      rw [List.map_append, List.nodup_append] at h
      exact h.2.2 p.1 (List.mem_map.mpr ⟨p, hp, rfl⟩) k (by simp) hk'
    have := merged_nodup kvs (acc ++ [(k, v)]) (by rw [← e]; exact h)
    rw [e, ← this]
    simp only [merged, List.foldl_cons, hs]
theorem mv_drs {prog : Program} {w : World} {W : Wd} : ∀ {es : List (IK × V)} {kvs : List (IK × Value)} {ents : List DictEntry}, MV w W es kvs → Pairs (mixKind prog w) ents kvs → MKeys w ents → DRs w W (mkv es) ents
  | _, _, _, .nil, .nil, _ => .nil
  | _, _, _, @MV.cons _ _ k _ _ _ _ r rs, @Pairs.cons _ _ _ _ _ e _ es _ a b c, hk => by
    obtain ⟨k', h1, h2⟩ := hk e (.head _)
    have hkk : k' = k := (mixKind prog w).inj _ _ _ h1 a
    subst hkk
    have tail := mv_drs rs c fun e he => hk e (.tail _ he)
    obtain ⟨hash, key, val⟩ := e
    dsimp only at h1 h2 b
    subst h2 b
    cases k' with
    | inl i =>
      obtain ⟨t, rfl⟩ := Value.isInt_shape (k := i) h1
      exact .int r tail
    | inr x =>
      obtain ⟨t, rfl⟩ := Value.isStrOf_shape (x := x) h1
      exact .str r tail
def EvPs (c : Cx) (pos : Pos) (pairs : List (Expr × Expr)) (σ : St) (Q : List (IK × V) → St → Prop) : Prop := DoG c σ (fun W es m => PV c.G.w W es m) (fun _ env m => m = evalPairs (pairs.map fun q => (eval q.1 env, do let x ← eval q.2 env; standAt pos; pure x))) Q
section
variable {c : Cx} {σ : St}
theorem EvPs_nil {pos : Pos} {Q : List (IK × V) → St → Prop} (h : Q [] σ) : EvPs c pos [] σ Q := by
  intro W env s A m hE hA hS hT
  subst hT
  exact evalPairs_nil ⟨[], σ, W, h, Le.refl W, .nil, hS⟩
theorem EvPs_cons {pos : Pos} {k v : Expr} {rest : List (Expr × Expr)} {Q : List (IK × V) → St → Prop} (h : Ev c k σ fun kv σ₁ => ∃ key, kv = kV key ∧ Ev c v σ₁ fun vv σ₂ => EvPs c pos rest σ₂ fun es σ₃ => Q ((key, vv) :: es) σ₃) : EvPs c pos ((k, v) :: rest) σ Q := by
  intro W env s A m hE hA hS hT
  subst hT
  refine evalPairs_cons (seq1 h hE hA hS rfl fun kv σ₁ W₁ x s₁ h₁ l₁ r₁ S₁ => ?_)
  obtain ⟨key, rfl, h₁⟩ := h₁
  refine wpAny_bind (seq1 h₁ hE hA S₁ rfl fun vv σ₂ W₂ y s₂ h₂ l₂ r₂ S₂ => wpAny_bind (wpAny_standAt (wpAny_pure ?_)))
  exact seq1 h₂ hE hA S₂ rfl fun es σ₃ W₃ z s₃ q l₃ r₃ S₃ => ⟨_, σ₃, W₃, q, (l₁.trans l₂).trans l₃, .cons (r₁.mono (l₂.trans l₃).q) (r₂.mono l₃.q) r₃, S₃⟩
theorem Ev_dct {keys : List (Option Expr)} {values : List Expr} {pos : Pos} {pairs : List (Expr × Expr)} {Q : V → St → Prop}
    (hshape : ∀ env, (evalEachOpt keys env).zip ((evalEach values env).map fun v => do let x ← v; standAt pos; pure x) = (pairs.map fun q => (eval q.1 env, (do let x ← eval q.2 env; standAt pos; pure x : Sem Value))).map fun p => (some p.1, p.2)) (h0 : pairs ≠ []) (hlen : pairs.length ≤ 15)
    (h : EvPs c pos pairs ⟨σ.loc, σ.sto ++ [.dict []]⟩ fun es σ₁ => σ₁.sto[σ.sto.length]? = some (.dict []) ∧ (es.map (·.1)).Nodup ∧ Q (.ref σ.sto.length) ⟨σ₁.loc, σ₁.sto.set σ.sto.length (.dict (mkv es))⟩) : Ev c (.Dict keys values pos) σ Q := by
  intro W env s A m hE hA hS hT
  subst hT
  obtain ⟨S₂, l₂⟩ := Sim.newCell (o := dctO #[] 0) (m := .dict []) hS rfl (.dict .nil)
  refine wpAny_Dict_pairs (knd := mixKind c.G.prog c.G.w) (hshape env) (by simpa using h0) (by simpa using hlen) ?_
  refine seq1 h hE hA S₂ rfl fun es σ₁ W₁ m s₁ h₁ l₁ r₁ S₁ => ?_
  obtain ⟨hc, hnd, q⟩ := h₁
  obtain ⟨kvs, k1, k2⟩ := PV.out c.G.prog r₁
  have hw : W₁ s.heap.objs.size = .cell σ.sto.length := l₁.q.2 _ _ (Wd.put_self _ _ _)
  have ha := S₁.1.at_ s.heap.objs.size
  rw [hw] at ha
  obtain ⟨m', o, e1, e2, e3⟩ := ha
  rw [hc] at e1; cases e1
  cases e3 with
  | @dict _ ents n r =>
    have he : ents = #[] := by
      cases hl : ents.toList with
      | nil => exact Array.toList_eq_nil_iff.mp hl
      | cons a b => rw [hl] at r; cases r
    subst he
    refine ⟨kvs, k1, ⟨_, _, _, e2, ⟨rfl, rfl, rfl⟩, rfl, fun e he => by simp at he, .nil, List.nodup_nil⟩, fun h' hd hs => ?_⟩
    rw [merged_nodup kvs [] (by rw [List.nil_append, k2.keys]; exact hnd), List.nil_append] at hd
    obtain ⟨o', ents', ep, ho, ⟨hc1, hc2, hc3⟩, hd', hk, hp, -⟩ := hd
    have ho' : o' = dctO ents' ep := by
      obtain ⟨a1, a2, a3, a4⟩ := o'
      dsimp only at hc1 hc2 hc3 hd'
      subst hc1 hc2 hc3 hd'
      rfl
    subst ho'
    exact ⟨_, _, W₁, q, l₂.trans l₁, .ref hw, S₁.set hw hs ho (.dict (mv_drs k2 hp fun e he => hk e (Array.mem_toList_iff.mp he)))⟩
end
theorem VRs.take {w : World} {W : Wd} : ∀ {vs : List V} {xs : List Value} (k : Nat), VRs w W vs xs → VRs w W (vs.take k) (xs.take k)
  | _, _, 0, _ => by rw [List.take_zero, List.take_zero]; exact .nil
  | _, _, k + 1, .nil => .nil
  | _, _, k + 1, .cons a b => by rw [List.take_succ_cons, List.take_succ_cons]; exact .cons a (VRs.take k b)
section
variable {c : Cx} {σ : St}
theorem Call_isi_tup {vs : List V} {Q : V → St → Prop} (h : Q (.bool true) σ) : CallV c (.builtin "isinstance") [.tup vs, .con (.type "tuple")] σ Q := by
  intro W env s A m hE hA hS hT
  obtain ⟨xs, hx, rfl⟩ := hT
  obtain ⟨x, y, rfl, r, r'⟩ := two_of hx
  cases r'
  cases r with
  | @tup a xs n _ e r =>
    have q := hS.1.at_ a
    rw [e] at q
    exact call_isinstance_yes (Tx := "tuple") ⟨_, q, rfl⟩ F.isi_meta_tuple F.sub_tuple_tuple ⟨_, σ, W, h, Le.refl W, .bool _, hS⟩
theorem Call_isi_int {i : Int} {Q : V → St → Prop} (h : Q (.bool false) σ) : CallV c (.builtin "isinstance") [.int i, .con (.type "tuple")] σ Q := by
  intro W env s A m hE hA hS hT
  obtain ⟨xs, hx, rfl⟩ := hT
  obtain ⟨x, y, rfl, r, r'⟩ := two_of hx
  cases r'
  obtain ⟨t, rfl⟩ := int_of r
  exact call_isinstance (isinstance_false_int (by decide +kernel) F.isi_meta_tuple F.sub_int_tuple) ⟨_, σ, W, h, Le.refl W, .bool _, hS.toks⟩
theorem Call_pop {i : Nat} {vs : List V} {v : V} {loc : List (Str × V)} {sto : List MO} {Q : V → St → Prop} (hi : sto[i]? = some (.list (vs ++ [v]))) (hz : vs.length < 1000000) (h : Q v ⟨loc, sto.set i (.list vs)⟩) : CallV c (.builtin "list.pop") [.ref i] ⟨loc, sto⟩ Q := by
  intro W env s A m hE hA hS hT
  obtain ⟨xs, hx, rfl⟩ := hT
  obtain ⟨x, rfl, r⟩ := one_of hx
  cases r with
  | @ref _ a e1 =>
    have q := hS.1.at_ a
    rw [e1] at q
    obtain ⟨m, o, e2, e3, e4⟩ := q
    rw [hi] at e2; cases e2
    cases e4 with
    | @list _ xs n rl =>
      have hl := rl.length
      rw [List.length_append, List.length_singleton, Array.length_toList] at hl
      obtain ⟨y, hy, ry⟩ := rl.get (k := vs.length) (v := v) (by simp)
      have hy' : xs[xs.size - 1]? = some y := by
        rw [show xs.size - 1 = vs.length by omega, ← Array.getElem?_toList]; exact hy
      refine call_meets PySem.F.slot_list_pop ⟨_, e3, rfl⟩ PySem.F.entry_list_pop (PySem.F.args_list_pop_1 _) (MeetsSeq.list_pop_last a xs n y hy' (by rw [sizeLine_eq]; omega)) ?_
      have e6 : ∃ n', Obj.mapSeq (fun ys => ys.eraseIdxIfInBounds (xs.size - 1)) (lstO xs n) = lstO (xs.eraseIdxIfInBounds (xs.size - 1)) n' := ⟨_, rfl⟩
      obtain ⟨n', e6⟩ := e6
      have e7 : (s.heap.update a (Obj.mapSeq fun ys => ys.eraseIdxIfInBounds (xs.size - 1))).get? a = some (lstO (xs.eraseIdxIfInBounds (xs.size - 1)) n') := by
        rw [Heap.get?_update_self _ e3 (by rw [e6]; rfl), e6]
      have e8 : (xs.eraseIdxIfInBounds (xs.size - 1)).toList = xs.toList.take vs.length := by
        rw [Array.eraseIdxIfInBounds, dif_pos (by omega), Array.toList_eraseIdx, show xs.size - 1 = vs.length by omega, List.eraseIdx_eq_take_drop_succ, List.drop_eq_nil_of_le (by rw [Array.length_toList]; omega), List.append_nil]
      have rl' : VRs c.G.w W vs (xs.eraseIdxIfInBounds (xs.size - 1)).toList := by
        rw [e8]
        have := rl.take vs.length
        rwa [List.take_left'  rfl] at this
      exact ⟨e3, v, _, W, h, Le.refl W, ry, hS.set e1 (Heap.SameBut.update ..) e7 (.list rl')⟩
end
theorem shaped_deep {d : V} (h : d.ok 24 = true) : SeqAt.shaped d.pd = true := by
  have l := pd_lay 24 d h
  unfold SeqAt.shaped
  rw [l.1, Bool.true_and]
  exact decide_eq_true (Nat.le_trans l.2 (by decide))
section
variable {c : Cx} {σ : St}
theorem Cmp_eq_deep {d e : V} {Q : V → St → Prop} (hd : d.ok 24 = true) (he : e.ok 24 = true) (h : ∀ r : Bool, (r = true ↔ d = e) → Q (.bool r) σ) : CmpV c .Eq d e σ Q := by
  intro W env s A m hE hA hS hT
  obtain ⟨x, y, hx, hy, rfl⟩ := hT
  obtain ⟨as, ra⟩ := hx.reads hS.1.fz 24 hd
  obtain ⟨bs, rb⟩ := hy.reads hS.1.fz 24 he
  exact eq_dataH ra rb (shaped_deep hd) (shaped_deep he) (by have := hA.2.2; show A.units + 64 < 9900; omega) ⟨_, σ, W, h _ (pd_eqv 24 d e 24 hd he), Le.refl W, .bool _, hS⟩
theorem Cmp_ne_deep {d e : V} {Q : V → St → Prop} (hd : d.ok 24 = true) (he : e.ok 24 = true) (h : ∀ r : Bool, (r = true ↔ d ≠ e) → Q (.bool r) σ) : CmpV c .NotEq d e σ Q := by
  intro W env s A m hE hA hS hT
  obtain ⟨x, y, hx, hy, rfl⟩ := hT
  obtain ⟨as, ra⟩ := hx.reads hS.1.fz 24 hd
  obtain ⟨bs, rb⟩ := hy.reads hS.1.fz 24 he
  refine ne_dataH ra rb (shaped_deep hd) (shaped_deep he) (by have := hA.2.2; show A.units + 64 < 9900; omega) ⟨_, σ, W, h _ ?_, Le.refl W, .bool _, hS⟩
  have q := pd_eqv 24 d e 24 hd he
  rw [ne_eq, ← q]; simp
end
def dctPairs : List (Option Expr) → List Expr → List (Expr × Expr)
  | some k :: ks, v :: vs => (k, v) :: dctPairs ks vs
  | _, _ => []
theorem Ev_dctD {c : Cx} {σ : St} {keys : List (Option Expr)} {values : List Expr} {pos : Pos} {Q : V → St → Prop}
    (hshape : ∀ env, (evalEachOpt keys env).zip ((evalEach values env).map fun v => do let x ← v; standAt pos; pure x) = ((dctPairs keys values).map fun q => (eval q.1 env, (do let x ← eval q.2 env; standAt pos; pure x : Sem Value))).map fun p => (some p.1, p.2)) (h0 : (dctPairs keys values).isEmpty = false) (hlen : Nat.ble (dctPairs keys values).length 15 = true)
    (h : EvPs c pos (dctPairs keys values) ⟨σ.loc, σ.sto ++ [.dict []]⟩ fun es σ₁ => σ₁.sto[σ.sto.length]? = some (.dict []) ∧ (es.map (·.1)).Nodup ∧ Q (.ref σ.sto.length) ⟨σ₁.loc, σ₁.sto.set σ.sto.length (.dict (mkv es))⟩) : Ev c (.Dict keys values pos) σ Q :=
  Ev_dct hshape (fun e => by rw [e] at h0; cases h0) (Nat.le_of_ble_eq_true hlen) h
/-- list + list into a new place of the store -/
theorem Bin_catC {c : Cx} {a b : V} {vs ws : List V} {loc : List (Str × V)} {sto : List MO} {Q : V → St → Prop} (ha : ListV ⟨loc, sto⟩ a vs) (hb : ListV ⟨loc, sto⟩ b ws) (hz : vs.length + ws.length ≤ sizeLine) (h : Q (.ref sto.length) ⟨loc, sto ++ [.list (vs ++ ws)]⟩) : BinV c .Add a b ⟨loc, sto⟩ Q := by
  intro W env s A m hE hA hS hT
  obtain ⟨x, y, hx, hy, rfl⟩ := hT
  obtain ⟨l, xs, rfl, hl, rl⟩ := ha.get hx hS
  obtain ⟨b, ys, rfl, hb, rb⟩ := hb.get hy hS
  obtain ⟨⟨cls, dd, data, sl⟩, ho, hc, n, hd⟩ := id hl
  obtain ⟨⟨cls2, dd2, data2, sl2⟩, ho2, hc2, n2, hd2⟩ := id hb
  simp only at hc hd hc2 hd2
  subst hc hd hc2 hd2
  obtain ⟨S₂, l₂⟩ := Sim.newCell (o := lstO (xs ++ ys) 0) (m := .list (vs ++ ws)) hS rfl (.list (by rw [Array.toList_append]; exact rl.append rb))
  refine concat_meets ⟨_, ho, rfl⟩ ⟨_, ho2, rfl⟩ noFill_list_add seq_list_add PySem.F.slot_list_add PySem.F.entry_list_add (PySem.F.args_list_add_2 _ _) (list_addW l b xs ys n n2 dd dd2 sl sl2 (by rw [← Array.length_toList, ← Array.length_toList, rl.length, rb.length]; exact hz)) ⟨ho, ho2, ?_⟩
  exact ⟨_, _, _, h, l₂, .ref (Wd.put_self _ _ _), S₂⟩
def PW : Program := PySem.Challenge.pw_dw5007_05
def topAt (k : Nat) : Stmt := PW.main.body.getD k (.Pass ⟨0, 0, 0, 0⟩)
def bodyAt (k : Nat) : List Stmt := match topAt k with | .FunctionDef _ _ b _ _ _ _ _ _ _ => b | _ => []
def scopeAt (k : Nat) : Scope := match topAt k with | .FunctionDef _ _ _ _ _ _ sc _ _ _ => sc | _ => { kind := .function, names := [], isGenerator := false, isCoroutine := false, more := [] }
def argsAt (k : Nat) : Arguments := match topAt k with | .FunctionDef _ a _ _ _ _ _ _ _ _ => a | _ => ⟨[], [], none, [], [], none, []⟩

/-- the k-th statement's def stands at a -/
def Fn (G : Gl) (a : Addr) (k : Nat) (dV : Value) : Prop := ∃ nm kV doc pm an cd ct, FnOk G a (fnX nm nm (argsAt k) (bodyAt k) (scopeAt k) [] dV kV doc pm an cd ct) (bodyAt k)
def cx (G : Gl) (k n : Nat) : Cx := ⟨G, scopeAt k, true, n⟩
def okAt (k : Nat) : Bool := !(scopeAt k).isCoroutine && !(scopeAt k).isGenerator && (scopeAt k).kind == .function && (scopeAt k).names.all (fun y => y.2 != .free)
def kindsOk (sc : Scope) (xs : List Str) : Bool := xs.all fun y => sc.names.lookup y == some .local || sc.names.lookup y == some .cell
theorem fn_calls {G : Gl} {a : Addr} {k n : Nat} {args : List V} {sto : List MO} {Q : V → List MO → Prop} (F : Fn G a k .none) (bs : List (Str × V))
    (hbind : ∀ (nm : Str) (kV doc pm : Value) (an : Option Addr) (cd ct : Value) (w : World) (W : Wd) (xs : List Value), VRs w W args xs → ∃ binds, Binds w W bs binds ∧ bindArgs (fnX nm nm (argsAt k) (bodyAt k) (scopeAt k) [] .none kV doc pm an cd ct) ⟨xs, []⟩ = pure binds)
    (hkind : kindsOk (scopeAt k) (bs.map (·.1)) = true)
    (h : Exs (cx G k n) (bodyAt k) ⟨bs.reverse, sto⟩ fun fl σ => Q fl.val σ.sto) : Calls G (n + 1) (.ref a) args sto Q := by
  obtain ⟨nm, kV, doc, pm, an, cd, ct, F⟩ := F
  refine Calls_def F bs (fun W s xs hS hx => ?_) ?_ h
  · obtain ⟨binds, hb, e⟩ := hbind nm kV doc pm an cd ct G.w W xs hx
    exact ⟨binds, hb, BindsTo.of_eq e⟩
  · rw [← hkind, kindsOk, List.all_map]; rfl

theorem Then_next {c : Cx} {rest : List Stmt} {Q : Fl → St → Prop} {σ : St} (h : Exs c rest σ Q) : Then c rest Q .next σ := h
theorem Then_ret {c : Cx} {rest : List Stmt} {Q : Fl → St → Prop} {σ : St} {v : V} (h : Q (.ret v) σ) : Then c rest Q (.ret v) σ := h
theorem ite_of {b : Bool} {P R : Prop} (h1 : b = true → P) (h2 : b = false → R) : if b = true then P else R := by
  cases b
  · exact h2 rfl
  · exact h1 rfl

local macro_rules | `(tactic| walk_at "ev") => `(tactic| first
  | (with_reducible refine Exs_cons ?_)
  | (with_reducible refine Exs_nil ?_)
  | ((with_reducible refine Then_next ?_); (try dsimp only))
  | (with_reducible refine Then_ret ?_)
  | (with_reducible refine Ev_int ?_)
  | (with_reducible refine Ev_none ?_)
  | (with_reducible refine Ev_bool ?_)
  | (with_reducible refine Ev_str ?_)
  | ((with_reducible refine' Ev_name ?hx ?hl ?_); (case hx => rfl); (case hl => rfl))
  | (with_reducible refine Ev_bin ?_)
  | ((with_reducible refine Ev_cmp ?hm ?_); (case hm => with_unfolding_all rfl))
  | (with_reducible refine Ev_ifexp ?_)
  | ((with_reducible refine Ev_tup ?hm ?_); (case hm => decide))
  | (with_reducible refine Evs_nil ?_)
  | ((with_reducible refine Evs_cons ?hm ?_); (case hm => rfl))
  | ((with_reducible refine Tst_cmp ?hm ?_); (case hm => with_unfolding_all rfl))
  | (with_reducible refine Tst_not ?_)
  | (with_reducible refine Tst_bool ?_)
  | (with_reducible refine All_nil ?_)
  | (with_reducible refine All_or ?_)
  | (with_reducible refine All_and ?_)
  | (with_reducible refine TruV_bool ?_)
  | (with_reducible refine Bin_add ?_)
  | (with_reducible refine Bin_sub ?_)
  | ((with_reducible refine Bin_mod ?hm ?_); (case hm => decide))
  | ((with_reducible refine Bin_div ?hm ?hn ?_); (case hm => decide); (case hn => decide))
  | (with_reducible refine Una_neg ?_)
  | (with_reducible refine Cmp_eqi ?_)
  | (with_reducible refine Cmp_nei ?_)
  | (with_reducible refine Cmp_lti ?_)
  | (with_reducible refine Cmp_lei ?_)
  | (with_reducible refine Cmp_gti ?_)
  | (with_reducible refine Cmp_gei ?_)
  | (with_reducible refine Ex_ret ?_)
  | (with_reducible refine Ex_if ?_)
  | ((with_reducible refine Ex_asg ?hm (Ok.of ?hn) ?_); (case hm => rfl); (case hn => rfl))
  | ((with_reducible refine Ex_expr ?hm ?hn ?_); (case hm => rfl); (case hn => rfl))
  | ((with_reducible refine Asg_name (Ok.of ?hn) ?_); (case hn => rfl)))
/-- the text's own sentinel -/
structure Miss (G : Gl) (m : Addr) : Prop where
  name : G.mg "_initial_missing" = some (.ref m)
  obj : ∃ o, G.s0.heap.get? m = some o ∧ o.cls = .type "object"
  iter : G.mg "iter" = none
  next : G.mg "next" = none

abbrev look (l : List (Str × V)) (x : Str) : Option V := l.lookup x
/-- what the fold asks of its step -/
def Fold (G : Gl) (n : Nat) (f : Value) (seq : V) (j : Nat) (J : Nat → V → List MO → Prop) (meas : Nat → List MO → Nat) (Q : V → List MO → Prop) : Prop :=
  ∀ k v s, J k v s → s[j]? = some (.iter seq k) ∧ ∃ vs, ListV ⟨[], s⟩ seq vs ∧ (∀ el, vs[k]? = some el → Calls G n f [v, el] (s.set j (.iter seq (k + 1))) fun r s' => J (k + 1) r s' ∧ meas (k + 1) s' < meas k s) ∧ (vs.length ≤ k → Q v (s.set j .junk))

theorem reduce_tail {G : Gl} {n n' : Nat} {f : Value} {seq v₀ : V} {j k₀ : Nat} {J : Nat → V → List MO → Prop} {meas : Nat → List MO → Nat} {Q : V → List MO → Prop} {loc : List (Str × V)} {s₀ : List MO} (hk : Kp G f) (hn : n ≤ n') (hF : Fold G n f seq j J meas Q) (hJ : J k₀ v₀ s₀)
    (h1 : look loc "value" = some v₀) (h2 : look loc "it" = some (.ref j)) (h3 : look loc "function" = some (.con f)) :
    Exs (cx G 2 n') ((bodyAt 2).drop 2) ⟨loc, s₀⟩ fun fl σ => Q fl.val σ.sto := by
  show Exs _ (_ :: _) _ _
  refine Exs_cons ?_
  refine Ex_forI (fun k σ => ∃ v, look σ.loc "value" = some v ∧ look σ.loc "it" = some (.ref j) ∧ look σ.loc "function" = some (.con f) ∧ J k v σ.sto) (fun k σ => meas k σ.sto) (fun _ _ => rfl) ?_
  refine Ev_name h2 (by rfl) ⟨j, seq, k₀, rfl, ⟨v₀, h1, h2, h3, hJ⟩, ?_⟩
  rintro k ⟨l, s⟩ ⟨v, e1, e2, e3, hj⟩
  dsimp only at e1 e2 e3 hj
  obtain ⟨g1, vs, g2, g3, g4⟩ := hF k v s hj
  refine ⟨g1, vs, g2, fun el hel => ?_, fun hl => ?_⟩
  · refine Asg_name (Ok.of (by rfl)) ?_
    show Exs _ (_ :: _) _ _
    refine Exs_cons (Ex_asg (by rfl) (Ok.of (by rfl)) ?_)
    refine Ev_call (by rfl) (by decide) (Ev_name (v := .con f) ?_ (by rfl) ⟨f, rfl, hk, ?_⟩)
    · rw [lookup_cons_ne _ _ (by decide)]; exact e3
    refine Evs_cons (by rfl) (Ev_name (v := v) ?_ (by rfl) (Evs_cons (by rfl) (Ev_name (v := el) ?_ (by rfl) (Evs_nil ?_))))
    · rw [lookup_cons_ne _ _ (by decide)]; exact e1
    · rw [lookup_cons_self]
    refine CallV_fun (n := n) ((g3 el hel).mono fun r s' hr => ?_) hn
    refine Exs_nil ⟨[(Str.ofString "value", r), (Str.ofString "it", .ref j), (Str.ofString "function", .con f)], ?_, ⟨r, rfl, rfl, rfl, hr.1⟩, hr.2⟩
    refine .cons (lookup_cons_self _ _ _) (.cons ?_ (.cons ?_ .nil))
    · rw [lookup_cons_ne _ _ (by decide), lookup_cons_ne _ _ (by decide)]; exact e2
    · rw [lookup_cons_ne _ _ (by decide), lookup_cons_ne _ _ (by decide)]; exact e3
  · refine Exs_nil ?_
    show Exs _ (_ :: _) _ _
    refine Exs_cons (Ex_ret (Ev_name (v := v) e1 (by rfl) ?_))
    exact g4 hl

structure RFn (G : Gl) (a m : Addr) : Prop where
  fn : ∃ T, Fn G a 2 (.ref T) ∧ ∃ o n, G.s0.heap.get? T = some o ∧ o.data = .seq #[.ref m] n
  miss : Miss G m

theorem boot_iter' : bootBuiltins (Str.ofString "iter") = some (.builtin "iter") := by decide +kernel
theorem boot_next' : bootBuiltins (Str.ofString "next") = some (.builtin "next") := by decide +kernel

/-- the head of the fold over a list: a new iterator -/
theorem reduce_list {G : Gl} {n n' : Nat} {m : Addr} {f : Value} {seq init : V} {J : Nat → V → List MO → Prop} {meas : Nat → List MO → Nat} {Q : V → List MO → Prop} {sto : List MO} {vs : List V} (M : Miss G m) (hk : Kp G f) (hn : n ≤ n') (hv : ListV ⟨[], sto⟩ seq vs)
    (hF : Fold G n f seq sto.length J meas Q)
    (hi : (NotCon init = true ∧ J 0 init (sto ++ [.iter seq 0])) ∨ (init = .con (.ref m) ∧ ∃ v, vs[0]? = some v ∧ J 1 v (sto ++ [.iter seq 1]))) :
    Exs (cx G 2 n') (bodyAt 2) ⟨[(Str.ofString "initial", init), (Str.ofString "sequence", seq), (Str.ofString "function", .con f)], sto⟩ fun fl σ => Q fl.val σ.sto := by
  show Exs _ (_ :: _) _ _
  refine Exs_cons (Ex_asg (by rfl) (Ok.of (by rfl)) ?_)
  refine Ev_call (by rfl) (by decide) (Ev_boot M.iter boot_iter' (by rfl) ⟨_, rfl, Kp_builtin, ?_⟩)
  refine Evs_cons (by rfl) (Ev_name (v := seq) rfl (by rfl) (Evs_nil (Call_iter hv ?_)))
  show Exs _ (_ :: _) _ _
  refine Exs_cons (Ex_if ?_)
  refine Tst_cmp (by rfl) (Ev_name (v := init) rfl (by rfl) (Ev_glob M.name (by rfl) ?_))
  obtain ⟨o, ho, hc⟩ := M.obj
  have hlen : (sto ++ [MO.iter seq 0])[sto.length]? = some (.iter seq 0) := by simp
  rcases hi with ⟨hi, hJ⟩ | ⟨rfl, v, hv0, hJ⟩
  · refine Is_obj hi ho hc (TruV_bool ?_)
    simp only [Bool.false_eq_true, if_false]
    show Exs _ (_ :: _) _ _
    refine Exs_cons (Ex_asg (by rfl) (Ok.of (by rfl)) (Ev_name (v := init) rfl (by rfl) ?_))
    refine Exs_nil ?_
    exact reduce_tail hk hn hF hJ rfl rfl rfl
  · refine Is_self (TruV_bool ?_)
    simp only [if_true]
    show Exs _ (_ :: _) _ _
    refine Exs_cons (Ex_try ?_)
    show Exs _ (_ :: _) _ _
    refine Exs_cons (Ex_asg (by rfl) (Ok.of (by rfl)) ?_)
    refine Ev_call (by rfl) (by decide) (Ev_boot M.next boot_next' (by rfl) ⟨_, rfl, Kp_builtin, ?_⟩)
    refine Evs_cons (by rfl) (Ev_name (v := .ref sto.length) rfl (by rfl) (Evs_nil (Call_next (vs := vs) (u := v) hlen ?_ hv0 ?_)))
    · rcases hv with rfl | ⟨i, rfl, hi⟩
      · exact .inl rfl
      · exact .inr ⟨i, rfl, by dsimp only at hi ⊢; rw [List.getElem?_append_left (List.getElem?_eq_some_iff.mp hi).1]; exact hi⟩
    · refine Exs_nil (Exs_nil (Exs_nil ?_))
      have e : (sto ++ [MO.iter seq 0]).set sto.length (.iter seq (0 + 1)) = sto ++ [.iter seq 1] := by simp
      rw [e]
      exact reduce_tail hk hn hF hJ rfl rfl rfl
/-- .. over an iterator -/
theorem reduce_iter {G : Gl} {n n' : Nat} {m : Addr} {f : Value} {seq init : V} {j : Nat} {J : Nat → V → List MO → Prop} {meas : Nat → List MO → Nat} {Q : V → List MO → Prop} {sto : List MO} {vs : List V} (M : Miss G m) (hk : Kp G f) (hn : n ≤ n') (hj : sto[j]? = some (.iter seq 0)) (hv : ListV ⟨[], sto⟩ seq vs)
    (hF : Fold G n f seq j J meas Q) (hi : NotCon init = true) (hJ : J 0 init sto) :
    Exs (cx G 2 n') (bodyAt 2) ⟨[(Str.ofString "initial", init), (Str.ofString "sequence", .ref j), (Str.ofString "function", .con f)], sto⟩ fun fl σ => Q fl.val σ.sto := by
  show Exs _ (_ :: _) _ _
  refine Exs_cons (Ex_asg (by rfl) (Ok.of (by rfl)) ?_)
  refine Ev_call (by rfl) (by decide) (Ev_boot M.iter boot_iter' (by rfl) ⟨_, rfl, Kp_builtin, ?_⟩)
  refine Evs_cons (by rfl) (Ev_name (v := .ref j) rfl (by rfl) (Evs_nil (Call_iterI hj hv ?_)))
  show Exs _ (_ :: _) _ _
  refine Exs_cons (Ex_if ?_)
  refine Tst_cmp (by rfl) (Ev_name (v := init) rfl (by rfl) (Ev_glob M.name (by rfl) ?_))
  obtain ⟨o, ho, hc⟩ := M.obj
  refine Is_obj hi ho hc (TruV_bool ?_)
  simp only [Bool.false_eq_true, if_false]
  show Exs _ (_ :: _) _ _
  refine Exs_cons (Ex_asg (by rfl) (Ok.of (by rfl)) (Ev_name (v := init) rfl (by rfl) ?_))
  refine Exs_nil ?_
  exact reduce_tail hk hn hF hJ rfl rfl rfl

theorem red_bind3 {G : Gl} {a m : Addr} {n : Nat} {f : Value} {seq init : V} {sto : List MO} {Q : V → List MO → Prop} (R : RFn G a m) (h : Exs (cx G 2 n) (bodyAt 2) ⟨[(Str.ofString "initial", init), (Str.ofString "sequence", seq), (Str.ofString "function", .con f)], sto⟩ fun fl σ => Q fl.val σ.sto) :
    Calls G (n + 1) (.ref a) [.con f, seq, init] sto Q := by
  obtain ⟨T, ⟨nm, kV, doc, pm, an, cd, ct, F⟩, o, k, ho, hd⟩ := R.fn
  refine Calls_def F [(Str.ofString "function", .con f), (Str.ofString "sequence", seq), (Str.ofString "initial", init)] (fun W s xs hS hx => ?_) (by rfl) h
  obtain ⟨x, y, z, rfl, r, r', r''⟩ := three_of hx
  exact ⟨_, .cons r (.cons r' (.cons r'' .nil)), BindsTo.of_defaults rfl (base_keeps hS _ _ ho) hd rfl rfl⟩
theorem red_bind2 {G : Gl} {a m : Addr} {n : Nat} {f : Value} {seq : V} {sto : List MO} {Q : V → List MO → Prop} (R : RFn G a m) (h : Exs (cx G 2 n) (bodyAt 2) ⟨[(Str.ofString "initial", .con (.ref m)), (Str.ofString "sequence", seq), (Str.ofString "function", .con f)], sto⟩ fun fl σ => Q fl.val σ.sto) :
    Calls G (n + 1) (.ref a) [.con f, seq] sto Q := by
  obtain ⟨T, ⟨nm, kV, doc, pm, an, cd, ct, F⟩, o, k, ho, hd⟩ := R.fn
  refine Calls_def F [(Str.ofString "function", .con f), (Str.ofString "sequence", seq), (Str.ofString "initial", .con (.ref m))] (fun W s xs hS hx => ?_) (by rfl) h
  obtain ⟨x, y, rfl, r, r'⟩ := two_of hx
  exact ⟨_, .cons r (.cons r' (.cons (.con _) .nil)), BindsTo.of_defaults rfl (base_keeps hS _ _ ho) hd rfl rfl⟩

theorem trim_all {k : Nat} {s s' : List MO} {v : V} (hs : s.take k = s') (hk : k ≤ s.length) (hp : v.lo k = true) (hc : ∀ m ∈ s', ResM s k m m) : Trim k s v s' v := by
  subst hs
  refine ⟨Res.lo v hp, by rw [List.length_take]; omega, hk, fun i m m' hi e e' => ?_⟩
  rw [List.getElem?_take, if_pos hi, e] at e'
  cases e'
  exact hc m (List.mem_of_getElem? (by rw [List.getElem?_take, if_pos hi]; exact e))
def MO.lo (k : Nat) : MO → Bool
  | .list vs => los k vs
  | .dict ds => dlos k ds
  | .iter v _ => v.lo k
  | .junk => true
theorem MO.res {s : List MO} {k : Nat} {m : MO} (h : m.lo k = true) : ResM s k m m := by
  cases m with
  | list vs => exact .list (Ress.lo vs h)
  | dict ds => exact .dict (DRess.lo ds h)
  | iter v n => exact .iter (Res.lo v h)
  | junk => exact .junk _
/-- the places below are closed -/
def Clo (s : List MO) : Prop := ∀ o ∈ s, o.lo s.length = true

/-- a fold of data by a step that stores nothing -/
theorem reduce_pure {G : Gl} {a m : Addr} {n : Nat} {f : Value} {vs : List V} {acc : Nat → V} {sto : List MO} (R : RFn G a m) (hk : Kp G f) (h0 : NotCon (acc 0) = true) (hp : (acc vs.length).lo sto.length = true) (hs : Clo sto)
    (hstep : ∀ k el s, vs[k]? = some el → Calls G n f [acc k, el] s fun r s' => r = acc (k + 1) ∧ s' = s) : Calls G (n + 1) (.ref a) [.con f, .lst vs, acc 0] sto fun r s => r = acc vs.length ∧ s = sto := by
  refine Calls_trim (Q' := fun r s => r = acc vs.length ∧ s = sto ++ [.junk]) (red_bind3 R (reduce_list (vs := vs) R.miss hk (Nat.le_refl n) (.inl rfl) (Q := fun r s => r = acc vs.length ∧ s = sto ++ [.junk])
    (J := fun k v s => v = acc k ∧ k ≤ vs.length ∧ s = sto ++ [.iter (.lst vs) k]) (meas := fun k _ => vs.length - k) ?_ (.inl ⟨h0, rfl, Nat.zero_le _, rfl⟩))) ?_
  · rintro k v s ⟨rfl, hkl, rfl⟩
    refine ⟨by simp, vs, .inl rfl, fun el hel => ?_, fun hl => ⟨by rw [show k = vs.length by omega], by simp⟩⟩
    have hb := (List.getElem?_eq_some_iff.mp hel).1
    refine (hstep k el _ hel).mono fun r s' ⟨h1, h2⟩ => ⟨⟨h1, hb, by rw [h2]; simp⟩, by dsimp only; omega⟩
  · rintro v s ⟨rfl, rfl⟩
    exact ⟨_, sto, trim_all (by simp) (by simp) hp fun o ho => MO.res (hs o ho), rfl, rfl⟩
/-- .. without a start -/
theorem reduce_pure2 {G : Gl} {a m : Addr} {n : Nat} {f : Value} {vs : List V} {acc : Nat → V} {sto : List MO} (R : RFn G a m) (hk : Kp G f) (h0 : vs[0]? = some (acc 1)) (hp : (acc vs.length).lo sto.length = true) (hs : Clo sto)
    (hstep : ∀ k el s, 0 < k → vs[k]? = some el → Calls G n f [acc k, el] s fun r s' => r = acc (k + 1) ∧ s' = s) : Calls G (n + 1) (.ref a) [.con f, .lst vs] sto fun r s => r = acc vs.length ∧ s = sto := by
  have h1 := (List.getElem?_eq_some_iff.mp h0).1
  refine Calls_trim (Q' := fun r s => r = acc vs.length ∧ s = sto ++ [.junk]) (red_bind2 R (reduce_list (vs := vs) R.miss hk (Nat.le_refl n) (.inl rfl) (Q := fun r s => r = acc vs.length ∧ s = sto ++ [.junk])
    (J := fun k v s => v = acc k ∧ 0 < k ∧ k ≤ vs.length ∧ s = sto ++ [.iter (.lst vs) k]) (meas := fun k _ => vs.length - k) ?_ (.inr ⟨rfl, _, h0, rfl, Nat.zero_lt_one, h1, rfl⟩))) ?_
  · rintro k v s ⟨rfl, hk0, hkl, rfl⟩
    refine ⟨by simp, vs, .inl rfl, fun el hel => ?_, fun hl => ⟨by rw [show k = vs.length by omega], by simp⟩⟩
    have hb := (List.getElem?_eq_some_iff.mp hel).1
    refine (hstep k el _ hk0 hel).mono fun r s' ⟨h1, h2⟩ => ⟨⟨h1, by omega, hb, by rw [h2]; simp⟩, by dsimp only; omega⟩
  · rintro v s ⟨rfl, rfl⟩
    exact ⟨_, sto, trim_all (by simp) (by simp) hp fun o ho => MO.res (hs o ho), rfl, rfl⟩
/-- .. by what the steps hold -/
theorem reduce_rel {G : Gl} {a m : Addr} {n : Nat} {f : Value} {vs : List V} {P : Nat → V → Prop} {init : V} {sto : List MO} (R : RFn G a m) (hk : Kp G f) (hN : NotCon init = true) (h0 : P 0 init) (hp : ∀ v, P vs.length v → v.lo sto.length = true) (hs : Clo sto)
    (hstep : ∀ k v el s, P k v → vs[k]? = some el → Calls G n f [v, el] s fun r s' => P (k + 1) r ∧ s' = s) : Calls G (n + 1) (.ref a) [.con f, .lst vs, init] sto fun r s => P vs.length r ∧ s = sto := by
  refine Calls_trim (Q' := fun r s => P vs.length r ∧ s = sto ++ [.junk]) (red_bind3 R (reduce_list (vs := vs) R.miss hk (Nat.le_refl n) (.inl rfl) (Q := fun r s => P vs.length r ∧ s = sto ++ [.junk])
    (J := fun k v s => P k v ∧ k ≤ vs.length ∧ s = sto ++ [.iter (.lst vs) k]) (meas := fun k _ => vs.length - k) ?_ (.inl ⟨hN, h0, Nat.zero_le _, rfl⟩))) ?_
  · rintro k v s ⟨hv, hkl, rfl⟩
    refine ⟨by simp, vs, .inl rfl, fun el hel => ?_, fun hl => ⟨by rw [show vs.length = k by omega]; exact hv, by simp⟩⟩
    have hb := (List.getElem?_eq_some_iff.mp hel).1
    refine (hstep k v el _ hv hel).mono fun r s' ⟨h1, h2⟩ => ⟨⟨h1, hb, by rw [h2]; simp⟩, by dsimp only; omega⟩
  · rintro v s ⟨hv, rfl⟩
    exact ⟨_, sto, trim_all (by simp) (by simp) (hp v hv) fun o ho => MO.res (hs o ho), hv, rfl⟩
theorem reduce_rel2 {G : Gl} {a m : Addr} {n : Nat} {f : Value} {vs : List V} {P : Nat → V → Prop} {v0 : V} {sto : List MO} (R : RFn G a m) (hk : Kp G f) (hv0 : vs[0]? = some v0) (h0 : P 1 v0) (hp : ∀ v, P vs.length v → v.lo sto.length = true) (hs : Clo sto)
    (hstep : ∀ k v el s, 0 < k → P k v → vs[k]? = some el → Calls G n f [v, el] s fun r s' => P (k + 1) r ∧ s' = s) : Calls G (n + 1) (.ref a) [.con f, .lst vs] sto fun r s => P vs.length r ∧ s = sto := by
  have h1 := (List.getElem?_eq_some_iff.mp hv0).1
  refine Calls_trim (Q' := fun r s => P vs.length r ∧ s = sto ++ [.junk]) (red_bind2 R (reduce_list (vs := vs) R.miss hk (Nat.le_refl n) (.inl rfl) (Q := fun r s => P vs.length r ∧ s = sto ++ [.junk])
    (J := fun k v s => P k v ∧ 0 < k ∧ k ≤ vs.length ∧ s = sto ++ [.iter (.lst vs) k]) (meas := fun k _ => vs.length - k) ?_ (.inr ⟨rfl, _, hv0, h0, Nat.zero_lt_one, h1, rfl⟩))) ?_
  · rintro k v s ⟨hv, hk0, hkl, rfl⟩
    refine ⟨by simp, vs, .inl rfl, fun el hel => ?_, fun hl => ⟨by rw [show vs.length = k by omega]; exact hv, by simp⟩⟩
    have hb := (List.getElem?_eq_some_iff.mp hel).1
    refine (hstep k v el _ hk0 hv hel).mono fun r s' ⟨h1, h2⟩ => ⟨⟨h1, by omega, hb, by rw [h2]; simp⟩, by dsimp only; omega⟩
  · rintro v s ⟨hv, rfl⟩
    exact ⟨_, sto, trim_all (by simp) (by simp) (hp v hv) fun o ho => MO.res (hs o ho), hv, rfl⟩
def W0 (h : Heap) : Wd := fun a => match h.get? a with | some o => .froz o | none => .out
theorem W0_some {h : Heap} {a : Addr} {o : Obj} (e : h.get? a = some o) : W0 h a = .froz o := by unfold W0; rw [e]
theorem sim0 (G : Gl) : SimG G (W0 G.s0.heap) [] G.s0 := by
  refine ⟨⟨_, _, rfl⟩, fun a o e => W0_some e, fun a => ?_, fun a b i e => ?_, fun a i e => ?_⟩
  · unfold W0
    cases e : G.s0.heap.get? a with
    | some o => exact e
    | none => trivial
  · unfold W0 at e
    split at e <;> cases e
  · unfold W0 at e
    split at e <;> cases e
theorem W0_own {h : Heap} (a : Addr) : W0 h a ≠ .own := by
  intro e
  unfold W0 at e
  split at e <;> cases e
theorem ints_vr {w : World} {W : Wd} : ∀ {vals : List Value} {ns : List Int}, IntsAre vals ns → VRs w W (ns.map V.int) vals
  | _, _, .nil => .nil
  | _, _, .cons n t r => .cons (.int n t) (ints_vr r)
theorem room0 : AOk 200 callerA := by
  refine ⟨rfl, ?_, ?_⟩ <;> decide +kernel
theorem law_ends {G : Gl} {a l : Addr} {vals : List Value} {ns : List Int} {c : ClaimW} {cl : Str → Option Addr} {mean : ExcName → Option Value} {args : List WData} (hg : G.s0.gens = #[]) (hL : G.s0.heap.IsList l vals.toArray) (hI : IntsAre vals ns)
    (hr : ∀ cls, c.raises args cls = false) (hp : c.post args (.bool true) args = true) {n₀ : Nat} (hc : Calls G n₀ (.ref a) [.lst (ns.map V.int)] [] fun v _ => v = .bool true) (hn₀ : n₀ ≤ 200 := by decide) :
    codeAny (model G.prog G.w) callerA (.call (.ref a) ⟨[.ref l], []⟩) (GoodWG c cl mean args G.s0) G.s0 := by
  obtain ⟨o, ho, hcl, n, hd⟩ := hL
  refine codeAny_mono (hc.more hn₀ (W0 G.s0.heap) G.s0 callerA [.ref l] (fun b => W0_own b) room0 (sim0 G) (.cons (.lst (W0_some ho) hcl hd (ints_vr hI)) .nil)) ?_
  rintro r s' ⟨x, v, sto', W', rfl, rfl, hle, -, hv, S⟩
  cases hv
  obtain ⟨h', tk, rfl⟩ := S.sh
  refine GoodW.toG ⟨.inl ⟨_, _, [], rfl, hr, .bool true, hp, fun _ => ⟨List.nodup_nil, fun b hb => nomatch hb⟩⟩, base_keeps S, rfl, hg⟩
theorem Fn_of {K : Frag} {G : Gl} {a : Addr} {k : Nat} {nm : Str} {kV doc pm dV cdv ct oc : Value} {an od : Option Addr} {osl : Array (Option Value)} (X : K.In G.s0.heap) (hb : okAt k = true)
    (ho : K.lookup a = some ⟨oc, od, .func (fnX nm nm (argsAt k) (bodyAt k) (scopeAt k) [] dV kV doc pm an cdv ct), osl⟩) (hcd : codeIn K cdv nm = true) : Fn G a k dV := by
  simp only [okAt, Bool.and_eq_true, beq_iff_eq, Bool.not_eq_true'] at hb
  obtain ⟨⟨⟨h1, h2⟩, h3⟩, h4⟩ := hb
  exact ⟨nm, kV, doc, pm, an, cdv, ct, ⟨_, X _ _ ho, rfl⟩, rfl, h1, h2, h3, rfl, rfl, rfl, codeRec_of X hcd, h4⟩
theorem Kp_of {K : Frag} {G : Gl} {a : Addr} {fd : FuncData} {oc : Value} {od : Option Addr} {osl : Array (Option Value)} (X : K.In G.s0.heap) (ho : K.lookup a = some ⟨oc, od, .func fd, osl⟩) : Kp G (.ref a) := Kp_func (X _ _ ho) rfl
theorem Fn.kp {G : Gl} {a : Addr} {k : Nat} {dV : Value} (h : Fn G a k dV) : Kp G (.ref a) := by
  obtain ⟨nm, kV, doc, pm, an, cd, ct, F⟩ := h
  obtain ⟨o, ho, hd⟩ := F.at_
  exact Kp_func ho hd
theorem name_of {K : Frag} {G : Gl} {x : Str} {v : Value} (X : K.In G.s0.heap) (e : nsIn K mainGlobals x = some (some v)) : G.mg x = some v := mg_of X G.g e
theorem none_of {K : Frag} {G : Gl} {x : Str} (X : K.In G.s0.heap) (e : nsIn K mainGlobals x = some none) : G.mg x = none := mg_none_of X G.g e
theorem miss_of {K : Frag} {G : Gl} {m : Addr} {od : Option Addr} {dd : Data} {osl : Array (Option Value)} (X : K.In G.s0.heap) (e : nsIn K mainGlobals "_initial_missing" = some (some (.ref m))) (ho : K.lookup m = some ⟨.type "object", od, dd, osl⟩)
    (e2 : nsIn K mainGlobals "iter" = some none) (e3 : nsIn K mainGlobals "next" = some none) : Miss G m := ⟨name_of X e, ⟨_, X _ _ ho, rfl⟩, none_of X e2, none_of X e3⟩
theorem red_of {K : Frag} {G : Gl} {a m T : Addr} {oc : Value} {od : Option Addr} {n : Nat} {osl : Array (Option Value)} (X : K.In G.s0.heap) (h : Fn G a 2 (.ref T)) (ho : K.lookup T = some ⟨oc, od, .seq #[.ref m] n, osl⟩) (hm : Miss G m) : RFn G a m := ⟨⟨T, h, _, _, X _ _ ho, rfl⟩, hm⟩
theorem law_post (l : OpenLaw) (args : List WData) : l.row.claim.post args (.bool true) args = true := by
  show (WShape.has [] (.bool true) .bool && WTm.holds [] (.eq .res (.lit (.bool true))) { args := args, res := some (.bool true), after := args }) = true
  simp [WShape.has, WTm.holds, WTm.value, WShape.arms, PySem.W.same]
theorem fn_at {K : Frag} {G : Gl} {x : Str} {a : Addr} {k : Nat} {nm : Str} {kV doc pm dV cdv ct oc : Value} {an od : Option Addr} {osl : Array (Option Value)} (X : K.In G.s0.heap) (e : nsIn K mainGlobals x = some (some (.ref a))) (hb : okAt k = true)
    (ho : K.lookup a = some ⟨oc, od, .func (fnX nm nm (argsAt k) (bodyAt k) (scopeAt k) [] dV kV doc pm an cdv ct), osl⟩) (hcd : codeIn K cdv nm = true) : G.mg x = some (.ref a) ∧ Fn G a k dV ∧ Kp G (.ref a) :=
  ⟨name_of X e, Fn_of X hb ho hcd, Kp_of X ho⟩
local macro_rules | `(tactic| walk_at "ev") => `(tactic| first
  | ((with_reducible refine Ex_asgT ?hm ?hn ?_); (case hm => rfl); (case hn => rfl))
  | ((with_reducible refine Asg_tup ?hm ?hn ?_); (case hm => rfl); (case hn => rfl))
  | ((with_reducible refine AsgL_cons ?hm ?_); (case hm => rfl))
  | (with_reducible refine AsgL_nil ?_)
  | (with_reducible refine Ev_slice ?_)
  | (with_reducible refine Ev_sub ?_)
  | (with_reducible refine Part_none ?_)
  | (with_reducible refine Part_some ?_)
  | ((with_reducible refine Ev_call ?hm ?hn ?_); (case hm => rfl); (case hn => decide))
  | (with_reducible refine Ev_call0 ?_)
  | (with_reducible refine Ev_una ?_)
  | (with_reducible refine Exs_cons ?_)
  | (with_reducible refine Exs_nil ?_)
  | ((with_reducible refine Then_next ?_); (try dsimp only))
  | (with_reducible refine Then_ret ?_)
  | (with_reducible refine Ev_int ?_)
  | (with_reducible refine Ev_none ?_)
  | (with_reducible refine Ev_bool ?_)
  | (with_reducible refine Ev_str ?_)
  | ((with_reducible refine' Ev_name ?hx ?hl ?_); (case hx => rfl); (case hl => rfl))
  | (with_reducible refine Ev_bin ?_)
  | ((with_reducible refine Ev_cmp ?hm ?_); (case hm => with_unfolding_all rfl))
  | (with_reducible refine Ev_ifexp ?_)
  | ((with_reducible refine Ev_tup ?hm ?_); (case hm => decide))
  | (with_reducible refine Evs_nil ?_)
  | ((with_reducible refine Evs_cons ?hm ?_); (case hm => rfl))
  | ((with_reducible refine Tst_cmp ?hm ?_); (case hm => with_unfolding_all rfl))
  | (with_reducible refine Tst_not ?_)
  | (with_reducible refine Tst_bool ?_)
  | (with_reducible refine All_nil ?_)
  | (with_reducible refine All_or ?_)
  | (with_reducible refine All_and ?_)
  | (with_reducible refine TruV_bool ?_)
  | (with_reducible refine Bin_add ?_)
  | (with_reducible refine Bin_sub ?_)
  | ((with_reducible refine Bin_mod ?hm ?_); (case hm => decide))
  | ((with_reducible refine Bin_div ?hm ?hn ?_); (case hm => decide); (case hn => decide))
  | (with_reducible refine Una_neg ?_)
  | (with_reducible refine Cmp_eqi ?_)
  | (with_reducible refine Cmp_nei ?_)
  | (with_reducible refine Cmp_lti ?_)
  | (with_reducible refine Cmp_lei ?_)
  | (with_reducible refine Cmp_gti ?_)
  | (with_reducible refine Cmp_gei ?_)
  | (with_reducible refine Ex_ret ?_)
  | (with_reducible refine Ex_if ?_)
  | ((with_reducible refine Ex_asg ?hm (Ok.of ?hn) ?_); (case hm => rfl); (case hn => rfl))
  | ((with_reducible refine Ex_expr ?hm ?hn ?_); (case hm => rfl); (case hn => rfl))
  | ((with_reducible refine Asg_name (Ok.of ?hn) ?_); (case hn => rfl)))
inductive Op where
  | add | sub | mul | pow
  deriving DecidableEq
def Op.rank : Op → Nat
  | .add => 1 | .sub => 1 | .mul => 2 | .pow => 3
inductive T where
  | leaf (i : Int)
  | node (o : Op) (l r : T)
inductive Tok5 where
  | num (i : Int)
  | op (o : Op)
  | lp
  | rp
  deriving DecidableEq
/-- a bracket is due round a child with the sign o' -/
def need (o' : Op) (rk : Nat) (strict : Bool) : Bool := decide (o'.rank < rk) || (decide (o'.rank = rk) && strict)
def Op.isPow (o : Op) : Bool := decide (o = .pow)
/-- writings with the brackets shown -/
inductive B where
  | leaf (i : Int)
  | node (o : Op) (l r : B)
  | par (b : B)
def B.flat : B → List Tok5
  | .leaf i => [.num i]
  | .node o l r => l.flat ++ [.op o] ++ r.flat
  | .par b => [.lp] ++ b.flat ++ [.rp]
def B.tree : B → T
  | .leaf i => .leaf i
  | .node o l r => .node o l.tree r.tree
  | .par b => b.tree
def B.pars : B → Nat
  | .leaf _ => 0
  | .node _ l r => l.pars + r.pars
  | .par b => b.pars + 1
/-- the sign at the root, where no bracket stands -/
def B.root : B → Option Op
  | .node o _ _ => some o
  | _ => none
def okL (o : Op) (b : B) : Prop := ∀ o', b.root = some o' → need o' o.rank o.isPow = false
def okR (o : Op) (b : B) : Prop := ∀ o', b.root = some o' → need o' o.rank (!o.isPow) = false
def B.legal : B → Prop
  | .leaf _ => True
  | .node o l r => l.legal ∧ r.legal ∧ okL o l ∧ okR o r
  | .par b => b.legal
def T.after : T → List Tok5
  | .leaf i => [.num i]
  | .node o l r => l.after ++ r.after ++ [.op o]
/-- brackets where they are due -/
def T.need (c : T) (rk : Nat) (strict : Bool) : Bool := match c with
  | .leaf _ => false
  | .node o _ _ => Mine.need o rk strict
def wrap (n : Bool) (b : B) : B := if n then .par b else b
def T.toB : T → B
  | .leaf i => .leaf i
  | .node o l r => .node o (wrap (l.need o.rank o.isPow) l.toB) (wrap (r.need o.rank (!o.isPow)) r.toB)
/-- brackets round every sign -/
def T.fullB : T → B
  | .leaf i => .leaf i
  | .node o l r => .par (.node o l.fullB r.fullB)
theorem wrap_tree (n : Bool) (b : B) : (wrap n b).tree = b.tree := by cases n <;> rfl
theorem toB_tree : ∀ t : T, t.toB.tree = t
  | .leaf _ => rfl
  | .node o l r => by rw [T.toB, B.tree, wrap_tree, wrap_tree, toB_tree l, toB_tree r]
theorem fullB_tree : ∀ t : T, t.fullB.tree = t
  | .leaf _ => rfl
  | .node o l r => by rw [T.fullB, B.tree, B.tree, fullB_tree l, fullB_tree r]
theorem toB_root (t : T) : t.toB.root = match t with
    | .leaf _ => none
    | .node o _ _ => some o := by cases t <;> rfl
theorem wrap_root {t : T} {rk : Nat} {st : Bool} {o' : Op} (h : (wrap (t.need rk st) t.toB).root = some o') : need o' rk st = false := by
  cases hn : t.need rk st with
  | true => rw [hn] at h; cases h
  | false =>
    rw [hn] at h
    have h' : t.toB.root = some o' := h
    rw [toB_root] at h'
    cases t with
    | leaf => cases h'
    | node o l r => cases h'; exact hn
theorem wrap_legal {n : Bool} {b : B} (h : b.legal) : (wrap n b).legal := by cases n <;> exact h
theorem toB_legal : ∀ t : T, t.toB.legal
  | .leaf _ => trivial
  | .node _ l r => ⟨wrap_legal (toB_legal l), wrap_legal (toB_legal r), fun _ h => wrap_root h, fun _ h => wrap_root h⟩
theorem fullB_root (t : T) : t.fullB.root = none := by cases t <;> rfl
theorem fullB_legal : ∀ t : T, t.fullB.legal
  | .leaf _ => trivial
  | .node _ l r => ⟨fullB_legal l, fullB_legal r, (fun _ h => by rw [fullB_root] at h; cases h), fun _ h => by rw [fullB_root] at h; cases h⟩
/-- no legal writing has fewer brackets -/
theorem wrap_pars (n : Bool) (b : B) : (wrap n b).pars = b.pars + (if n then 1 else 0) := by cases n <;> rfl
theorem tree_root {b : B} {o : Op} (h : b.root = some o) : ∃ l r, b.tree = .node o l r := by
  cases b with
  | leaf => cases h
  | par => cases h
  | node o' l r => cases h; exact ⟨_, _, rfl⟩
theorem pars_min : ∀ b : B, b.legal → b.tree.toB.pars + (match b with | .par _ => 1 | _ => 0) ≤ b.pars
  | .leaf _, _ => Nat.le_refl _
  | .par b, h => by
    have := pars_min b h
    show b.tree.toB.pars + 1 ≤ b.pars + 1
    omega
  | .node o l r, ⟨hl, hr, h1, h2⟩ => by
    have a := pars_min l hl
    have b := pars_min r hr
    have key : ∀ (x : B) (rk : Nat) (st : Bool), (∀ o', x.root = some o' → need o' rk st = false) → x.tree.toB.pars + (match x with | .par _ => 1 | _ => 0) ≤ x.pars → (wrap (x.tree.need rk st) x.tree.toB).pars ≤ x.pars := by
      intro x rk st hx hp
      rw [wrap_pars]
      cases x with
      | leaf i => exact Nat.le_refl _
      | node o' l' r' =>
        have : (B.node o' l' r').tree.need rk st = false := hx o' rfl
        rw [this]
        exact hp
      | par y =>
        have hp' : y.tree.toB.pars + 1 ≤ (B.par y).pars := hp
        show y.tree.toB.pars + _ ≤ _
        split <;> omega
    have a' := key l o.rank o.isPow h1 a
    have b' := key r o.rank (!o.isPow) h2 b
    show (wrap _ _).pars + (wrap _ _).pars ≤ l.pars + r.pars
    exact Nat.add_le_add a' b'
/-! the reading machine -/
inductive Wt where
  | op (o : Op)
  | lp
  deriving DecidableEq
/-- a waiting sign gives way to o -/
def pops (q o : Op) : Bool := decide (q.rank > o.rank) || (decide (q.rank = o.rank) && !o.isPow)
def popO (o : Op) : List Tok5 → List Wt → List Tok5 × List Wt
  | done, .op q :: w => if pops q o then popO o (done ++ [.op q]) w else (done, .op q :: w)
  | done, .lp :: w => (done, .lp :: w)
  | done, [] => (done, [])
def popP : List Tok5 → List Wt → List Tok5 × List Wt
  | done, .op q :: w => popP (done ++ [.op q]) w
  | done, .lp :: w => (done, w)
  | done, [] => (done, [])
def step5 (s : List Tok5 × List Wt) : Tok5 → List Tok5 × List Wt
  | .num i => (s.1 ++ [.num i], s.2)
  | .lp => (s.1, .lp :: s.2)
  | .op o => ((popO o s.1 s.2).1, .op o :: (popO o s.1 s.2).2)
  | .rp => popP s.1 s.2
def run5 (s : List Tok5 × List Wt) (ts : List Tok5) : List Tok5 × List Wt := ts.foldl step5 s
theorem run5_append (s : List Tok5 × List Wt) (xs ys : List Tok5) : run5 s (xs ++ ys) = run5 (run5 s xs) ys := List.foldl_append
def B.dn : B → List Tok5
  | .leaf i => [.num i]
  | .node _ l r => l.tree.after ++ r.dn
  | .par b => b.tree.after
def B.rem : B → List Op
  | .node o _ r => r.rem ++ [o]
  | _ => []
theorem dn_rem : ∀ b : B, b.dn ++ b.rem.map Tok5.op = b.tree.after
  | .leaf _ => rfl
  | .par _ => List.append_nil _
  | .node o l r => by
    show l.tree.after ++ r.dn ++ (r.rem ++ [o]).map Tok5.op = l.tree.after ++ r.tree.after ++ [.op o]
    rw [List.map_append, ← dn_rem r]
    simp
def guard5 (w : List Wt) (o : Op) : Prop := ∀ q w', w = .op q :: w' → pops q o = false
theorem need_pops {o' o : Op} : need o' o.rank o.isPow = false → pops o' o = true := by cases o' <;> cases o <;> decide
theorem need_trans {o'' o' o : Op} : need o'' o'.rank (!o'.isPow) = false → need o' o.rank o.isPow = false → need o'' o.rank o.isPow = false := by cases o'' <;> cases o' <;> cases o <;> decide
theorem guard_left {q o' o : Op} : need o' o.rank o.isPow = false → pops q o = false → pops q o' = false := by cases q <;> cases o' <;> cases o <;> decide
theorem guard_right {o'' o : Op} : need o'' o.rank (!o.isPow) = false → pops o o'' = false := by cases o'' <;> cases o <;> decide
theorem rem_pops (o : Op) : ∀ b : B, b.legal → okL o b → ∀ q ∈ b.rem, pops q o = true
  | .leaf _, _, _, q, h => nomatch h
  | .par _, _, _, q, h => nomatch h
  | .node o' l r, ⟨_, hr, _, h2⟩, hk, q, h => by
    have e := hk o' rfl
    rcases List.mem_append.mp h with h | h
    · exact rem_pops o r hr (fun o'' h'' => need_trans (h2 o'' h'') e) q h
    · rw [List.mem_singleton.mp h]; exact need_pops e
theorem popO_all (o : Op) {w : List Wt} (hg : guard5 w o) : ∀ (qs : List Op) (done : List Tok5), (∀ q ∈ qs, pops q o = true) → popO o done (qs.map Wt.op ++ w) = (done ++ qs.map Tok5.op, w)
  | [], done, _ => by
    rw [List.map_nil, List.nil_append, List.map_nil, List.append_nil]
    match w, hg with
    | [], _ => rfl
    | .lp :: w, _ => rfl
    | .op q :: w, hg => rw [popO, hg q w rfl]; rfl
  | q :: qs, done, h => by
    rw [List.map_cons, List.cons_append, popO, if_pos (h q (.head _)), popO_all o hg qs _ fun q' hq => h q' (.tail _ hq)]
    simp
theorem popP_all (w : List Wt) : ∀ (qs : List Op) (done : List Tok5), popP done (qs.map Wt.op ++ .lp :: w) = (done ++ qs.map Tok5.op, w)
  | [], done => by simp [popP]
  | q :: qs, done => by
    rw [List.map_cons, List.cons_append, popP, popP_all w qs]
    simp
/-- a legal writing is read as its tree -/
theorem run_flat : ∀ (b : B), b.legal → ∀ (done : List Tok5) (w : List Wt), (∀ o, b.root = some o → guard5 w o) → run5 (done, w) b.flat = (done ++ b.dn, b.rem.map Wt.op ++ w)
  | .leaf i, _, done, w, _ => rfl
  | .par b, hb, done, w, _ => by
    show run5 (done, w) ([.lp] ++ b.flat ++ [.rp]) = (done ++ b.tree.after, w)
    rw [run5_append, run5_append]
    show run5 (run5 (done, .lp :: w) b.flat) [.rp] = _
    rw [run_flat b hb done (.lp :: w) fun o _ q w' e => by cases e]
    show popP (done ++ b.dn) (b.rem.map Wt.op ++ .lp :: w) = _
    rw [popP_all, List.append_assoc, dn_rem]
  | .node o l r, ⟨hl, hr, h1, h2⟩, done, w, hg => by
    show run5 (done, w) (l.flat ++ [.op o] ++ r.flat) = (done ++ (l.tree.after ++ r.dn), (r.rem ++ [o]).map Wt.op ++ w)
    have hgo := hg o rfl
    rw [run5_append, run5_append, run_flat l hl done w fun o' ho' q w' e => guard_left (h1 o' ho') (hgo q w' e)]
    show run5 ((popO o (done ++ l.dn) (l.rem.map Wt.op ++ w)).1, .op o :: (popO o (done ++ l.dn) (l.rem.map Wt.op ++ w)).2) r.flat = _
    rw [popO_all o hgo _ _ (rem_pops o l hl h1)]
    rw [run_flat r hr _ (.op o :: w) fun o'' ho'' q w' e => by cases e; exact guard_right (h2 o'' ho'')]
    rw [List.append_assoc done, dn_rem]
    simp
def parse5 (ts : List Tok5) : List Tok5 := (run5 ([], []) ts).1 ++ (run5 ([], []) ts).2.filterMap fun x => match x with | .op o => some (.op o) | .lp => none
theorem parse_flat {b : B} (h : b.legal) : parse5 b.flat = b.tree.after := by
  unfold parse5
  rw [run_flat b h [] [] fun o _ q w' e => by cases e]
  show ([] ++ b.dn) ++ (b.rem.map Wt.op ++ []).filterMap _ = _
  rw [List.append_nil, List.filterMap_map, List.nil_append, ← dn_rem b]
  congr 1
  induction b.rem with
  | nil => rfl
  | cons a l ih => simp [List.filterMap_cons, ih]
/-! any writing is read as some legal one -/
def ins : B → Op → B → B
  | .node o' l r, o, a => if need o' o.rank o.isPow then .node o' l (ins r o a) else .node o (.node o' l r) a
  | .leaf i, o, a => .node o (.leaf i) a
  | .par b, o, a => .node o (.par b) a
theorem ins_flat : ∀ (b : B) (o : Op) (a : B), (ins b o a).flat = b.flat ++ (.op o :: a.flat)
  | .leaf _, _, _ => by simp [ins, B.flat]
  | .par _, _, _ => by simp [ins, B.flat]
  | .node o' l r, o, a => by
    unfold ins
    split
    · show l.flat ++ [.op o'] ++ (ins r o a).flat = _
      rw [ins_flat r o a]
      simp [B.flat]
    · simp [B.flat]
theorem ins_pars : ∀ (b : B) (o : Op) (a : B), (ins b o a).pars = b.pars + a.pars
  | .leaf _, _, _ => rfl
  | .par _, _, _ => rfl
  | .node o' l r, o, a => by
    unfold ins
    split
    · show l.pars + (ins r o a).pars = _
      rw [ins_pars r o a]
      simp [B.pars]; omega
    · rfl
theorem ins_root : ∀ (b : B) (o : Op) (a : B) (o2 : Op), (ins b o a).root = some o2 → o2 = o ∨ b.root = some o2
  | .leaf _, _, _, _, h => by cases h; exact .inl rfl
  | .par _, _, _, _, h => by cases h; exact .inl rfl
  | .node o' l r, o, a, o2, h => by
    unfold ins at h
    split at h
    · cases h; exact .inr rfl
    · cases h; exact .inl rfl
theorem need_swap {o' o : Op} : need o' o.rank o.isPow = true → need o o'.rank (!o'.isPow) = false := by cases o' <;> cases o <;> decide
theorem ins_legal : ∀ (b : B) (o : Op) (a : B), b.legal → a.legal → a.root = none → (ins b o a).legal
  | .leaf _, o, a, _, ha, hr => ⟨trivial, ha, (fun _ h => nomatch h), fun _ h => by rw [hr] at h; cases h⟩
  | .par _, o, a, hb, ha, hr => ⟨hb, ha, (fun _ h => nomatch h), fun _ h => by rw [hr] at h; cases h⟩
  | .node o' l r, o, a, ⟨h1, h2, h3, h4⟩, ha, hr => by
    unfold ins
    split
    · rename_i hn
      refine ⟨h1, ins_legal r o a h2 ha hr, h3, fun o2 h => ?_⟩
      rcases ins_root r o a o2 h with rfl | h
      · exact need_swap hn
      · exact h4 o2 h
    · rename_i hn
      refine ⟨⟨h1, h2, h3, h4⟩, ha, fun o2 h => ?_, fun _ h => by rw [hr] at h; cases h⟩
      cases h
      simpa using hn
def seqOf : B → B × List (Op × B)
  | .leaf i => (.leaf i, [])
  | .par b => (.par b, [])
  | .node o l r => ((seqOf l).1, (seqOf l).2 ++ (o, (seqOf r).1) :: (seqOf r).2)
def insAll (b : B) (ps : List (Op × B)) : B := ps.foldl (fun b p => ins b p.1 p.2) b
theorem insAll_flat : ∀ (ps : List (Op × B)) (b : B), (insAll b ps).flat = b.flat ++ ps.flatMap fun p => .op p.1 :: p.2.flat
  | [], b => by simp [insAll]
  | p :: ps, b => by
    show (insAll (ins b p.1 p.2) ps).flat = _
    rw [insAll_flat ps, ins_flat]
    simp
theorem insAll_pars : ∀ (ps : List (Op × B)) (b : B), (insAll b ps).pars = b.pars + (ps.map fun p => p.2.pars).sum
  | [], b => rfl
  | p :: ps, b => by
    show (insAll (ins b p.1 p.2) ps).pars = _
    rw [insAll_pars ps, ins_pars, List.map_cons, List.sum_cons]
    omega
theorem insAll_legal : ∀ (ps : List (Op × B)) (b : B), b.legal → (∀ p ∈ ps, p.2.legal ∧ p.2.root = none) → (insAll b ps).legal
  | [], b, hb, _ => hb
  | p :: ps, b, hb, h => insAll_legal ps _ (ins_legal b p.1 p.2 hb (h p (.head _)).1 (h p (.head _)).2) fun q hq => h q (.tail _ hq)
theorem seq_flat : ∀ b : B, (seqOf b).1.flat ++ ((seqOf b).2.flatMap fun p => .op p.1 :: p.2.flat) = b.flat
  | .leaf _ => by simp [seqOf]
  | .par _ => by simp [seqOf]
  | .node o l r => by
    rw [B.flat, ← seq_flat l, ← seq_flat r]
    simp [seqOf]
theorem seq_pars : ∀ b : B, (seqOf b).1.pars + ((seqOf b).2.map fun p => p.2.pars).sum = b.pars
  | .leaf _ => rfl
  | .par _ => rfl
  | .node o l r => by
    rw [B.pars, ← seq_pars l, ← seq_pars r]
    simp [seqOf]; omega
theorem seq_ok : ∀ b : B, b.legal → ((seqOf b).1.legal ∧ (seqOf b).1.root = none) ∧ ∀ p ∈ (seqOf b).2, p.2.legal ∧ p.2.root = none
  | .leaf _, _ => ⟨⟨trivial, rfl⟩, fun _ h => nomatch h⟩
  | .par _, h => ⟨⟨h, rfl⟩, fun _ h => nomatch h⟩
  | .node o l r, ⟨h1, h2, _, _⟩ => by
    have a := seq_ok l h1
    have b := seq_ok r h2
    refine ⟨a.1, fun p hp => ?_⟩
    rcases List.mem_append.mp hp with hp | hp
    · exact a.2 p hp
    · rcases List.mem_cons.mp hp with rfl | hp
      · exact b.1
      · exact b.2 p hp
def norm : B → B
  | .leaf i => .leaf i
  | .par b => .par (norm b)
  | .node o l r => insAll (ins (norm l) o (seqOf (norm r)).1) (seqOf (norm r)).2
theorem norm_legal : ∀ b : B, (norm b).legal
  | .leaf _ => trivial
  | .par b => norm_legal b
  | .node o l r => by
    have a := seq_ok (norm r) (norm_legal r)
    exact insAll_legal _ _ (ins_legal _ o _ (norm_legal l) a.1.1 a.1.2) a.2
theorem norm_flat : ∀ b : B, (norm b).flat = b.flat
  | .leaf _ => rfl
  | .par b => by rw [norm, B.flat, B.flat, norm_flat b]
  | .node o l r => by
    rw [norm, insAll_flat, ins_flat, norm_flat l, B.flat, ← norm_flat r, ← seq_flat (norm r)]
    simp
theorem norm_pars : ∀ b : B, (norm b).pars = b.pars
  | .leaf _ => rfl
  | .par b => by rw [norm, B.pars, B.pars, norm_pars b]
  | .node o l r => by
    rw [norm, insAll_pars, ins_pars, norm_pars l, B.pars, ← norm_pars r, ← seq_pars (norm r)]
    omega
/-! the building machine -/
def bstep : List T → Tok5 → List T
  | r :: l :: s, .op o => .node o l r :: s
  | s, .num i => .leaf i :: s
  | s, _ => s
theorem build_after : ∀ (t : T) (s : List T), t.after.foldl bstep s = t :: s
  | .leaf i, s => by cases s with
    | nil => rfl
    | cons a s => cases s <;> rfl
  | .node o l r, s => by
    rw [T.after, List.foldl_append, List.foldl_append, build_after l, build_after r]
    rfl
theorem after_inj {t u : T} (h : t.after = u.after) : t = u := by
  have a := build_after t []
  rw [h, build_after u []] at a
  exact (List.cons.inj a).1.symm
/-- a writing with one pair of brackets less is read as another tree -/
theorem less_other {t : T} {b : B} (h : b.pars < t.toB.pars) : parse5 b.flat ≠ t.after := by
  intro e
  rw [← norm_flat, parse_flat (norm_legal b)] at e
  have e := after_inj e
  have m := pars_min (norm b) (norm_legal b)
  rw [e, norm_pars] at m
  omega
/-! the pairs of brackets of a writing -/
def scan : List Tok5 → Nat → List Nat → List (Nat × Nat)
  | .lp :: ts, k, S => scan ts (k + 1) (k :: S)
  | .rp :: ts, k, j :: S => (j, k) :: scan ts (k + 1) S
  | _ :: ts, k, S => scan ts (k + 1) S
  | [], _, _ => []
def bal : List Tok5 → Nat → Prop
  | .lp :: ts, n => bal ts (n + 1)
  | .rp :: ts, n + 1 => bal ts n
  | .rp :: _, 0 => False
  | .num _ :: ts, n => bal ts n
  | .op _ :: ts, n => bal ts n
  | [], _ => True
def pairsOf : B → Nat → List (Nat × Nat)
  | .leaf _, _ => []
  | .node _ l r, k => pairsOf l k ++ pairsOf r (k + l.flat.length + 1)
  | .par b, k => pairsOf b (k + 1) ++ [(k, k + 1 + b.flat.length)]
theorem bal_flat : ∀ (b : B) (post : List Tok5) (n : Nat), bal (b.flat ++ post) n ↔ bal post n
  | .leaf _, post, n => Iff.rfl
  | .par b, post, n => by
    show bal ([.lp] ++ b.flat ++ [.rp] ++ post) n ↔ _
    rw [List.append_assoc, List.append_assoc]
    show bal (b.flat ++ ([.rp] ++ post)) (n + 1) ↔ _
    rw [bal_flat b]
    exact Iff.rfl
  | .node o l r, post, n => by
    show bal (l.flat ++ [.op o] ++ r.flat ++ post) n ↔ _
    rw [List.append_assoc, List.append_assoc, bal_flat l]
    show bal (r.flat ++ post) n ↔ _
    exact bal_flat r post n
theorem scan_flat : ∀ (b : B) (post : List Tok5) (k : Nat) (S : List Nat), scan (b.flat ++ post) k S = pairsOf b k ++ scan post (k + b.flat.length) S
  | .leaf _, post, k, S => by cases S <;> rfl
  | .par b, post, k, S => by
    show scan ([.lp] ++ b.flat ++ [.rp] ++ post) k S = _
    rw [List.append_assoc, List.append_assoc]
    show scan (b.flat ++ ([.rp] ++ post)) (k + 1) (k :: S) = _
    rw [scan_flat b]
    show pairsOf b (k + 1) ++ (k, k + 1 + b.flat.length) :: scan post (k + 1 + b.flat.length + 1) S = _
    simp only [pairsOf, B.flat, List.length_append, List.length_cons, List.length_nil, List.append_assoc, List.singleton_append]
    rw [show k + (b.flat.length + 1 + (0 + 1)) = k + 1 + b.flat.length + 1 by omega]
  | .node o l r, post, k, S => by
    show scan (l.flat ++ [.op o] ++ r.flat ++ post) k S = _
    rw [List.append_assoc, List.append_assoc, scan_flat l]
    have e : scan ([.op o] ++ (r.flat ++ post)) (k + l.flat.length) S = scan (r.flat ++ post) (k + l.flat.length + 1) S := by cases S <;> rfl
    rw [e, scan_flat r]
    simp only [pairsOf, B.flat, List.length_append, List.length_cons, List.length_nil, List.append_assoc]
    rw [show k + (l.flat.length + (0 + 1 + r.flat.length)) = k + l.flat.length + 1 + r.flat.length by omega]
def rem5 (j k : Nat) (ts : List Tok5) : List Tok5 := ts.take j ++ (ts.take k).drop (j + 1) ++ ts.drop (k + 1)
theorem rem5_at (pre mid post : List Tok5) : rem5 pre.length (pre.length + 1 + mid.length) (pre ++ ([.lp] ++ mid ++ [.rp]) ++ post) = pre ++ mid ++ post := by
  unfold rem5
  have e1 : (pre ++ ([Tok5.lp] ++ mid ++ [Tok5.rp]) ++ post).take pre.length = pre := by
    rw [List.append_assoc, List.take_left' rfl]
  have e2 : (pre ++ ([Tok5.lp] ++ mid ++ [Tok5.rp]) ++ post).take (pre.length + 1 + mid.length) = pre ++ [.lp] ++ mid := by
    rw [show pre ++ ([Tok5.lp] ++ mid ++ [Tok5.rp]) ++ post = (pre ++ [Tok5.lp] ++ mid) ++ ([Tok5.rp] ++ post) by simp]
    exact List.take_left' (by simp; omega)
  have e3 : (pre ++ ([Tok5.lp] ++ mid ++ [Tok5.rp]) ++ post).drop (pre.length + 1 + mid.length + 1) = post := by
    rw [show pre ++ ([Tok5.lp] ++ mid ++ [Tok5.rp]) ++ post = (pre ++ [Tok5.lp] ++ mid ++ [Tok5.rp]) ++ post by simp]
    exact List.drop_left' (by simp; omega)
  rw [e1, e2, e3]
  have e4 : (pre ++ [Tok5.lp] ++ mid).drop (pre.length + 1) = mid := List.drop_left' (by simp)
  rw [e4]
theorem pair_less : ∀ (b : B) (i j k : Nat), (j, k) ∈ pairsOf b i → ∃ b1 : B, b1.pars + 1 = b.pars ∧ ∀ pre post : List Tok5, pre.length = i → rem5 j k (pre ++ b.flat ++ post) = pre ++ b1.flat ++ post
  | .leaf _, _, _, _, h => nomatch h
  | .par b, i, j, k, h => by
    rcases List.mem_append.mp h with h | h
    · obtain ⟨b1, h1, h2⟩ := pair_less b (i + 1) j k h
      refine ⟨.par b1, by simp [B.pars]; omega, fun pre post hp => ?_⟩
      have := h2 (pre ++ [.lp]) ([.rp] ++ post) (by simp; omega)
      simpa [B.flat] using this
    · have h := List.mem_singleton.mp h
      cases h
      refine ⟨b, rfl, fun pre post hp => ?_⟩
      subst hp
      exact rem5_at pre b.flat post
  | .node o l r, i, j, k, h => by
    rcases List.mem_append.mp h with h | h
    · obtain ⟨b1, h1, h2⟩ := pair_less l i j k h
      refine ⟨.node o b1 r, by simp [B.pars]; omega, fun pre post hp => ?_⟩
      have := h2 pre ([.op o] ++ r.flat ++ post) hp
      simpa [B.flat] using this
    · obtain ⟨b1, h1, h2⟩ := pair_less r (i + l.flat.length + 1) j k h
      refine ⟨.node o l b1, by simp [B.pars]; omega, fun pre post hp => ?_⟩
      have := h2 (pre ++ l.flat ++ [.op o]) post (by simp; omega)
      simpa [B.flat] using this
/-- what the law asks at each pair of the shorter writing -/
theorem pair_other {t : T} {j k : Nat} (h : (j, k) ∈ scan t.toB.flat 0 []) : ∃ b1 : B, rem5 j k t.toB.flat = b1.flat ∧ b1.pars < t.toB.pars ∧ parse5 (rem5 j k t.toB.flat) ≠ t.after := by
  have e := scan_flat t.toB [] 0 []
  rw [List.append_nil] at e
  have e0 : ∀ n, scan [] n [] = [] := fun _ => rfl
  rw [e, e0, List.append_nil] at h
  obtain ⟨b1, h1, h2⟩ := pair_less t.toB 0 j k h
  have h3 := h2 [] [] rfl
  rw [List.nil_append, List.append_nil, List.nil_append, List.append_nil] at h3
  refine ⟨b1, h3, by omega, ?_⟩
  rw [h3]
  exact less_other (by omega)
def Op.sign : Op → Str
  | .add => "+" | .sub => "-" | .mul => "*" | .pow => "^"
def Op.key (o : Op) : IK := .inr o.sign
def rankD : List (IK × V) := [(Op.add.key, .int 1), (Op.sub.key, .int 1), (Op.mul.key, .int 2), (Op.pow.key, .int 3)]
def tV : T → V
  | .leaf i => .int i
  | .node o l r => .tup [.str o.sign, tV l, tV r]
def tokV : Tok5 → V
  | .num i => .int i
  | .op o => .str o.sign
  | .lp => .str "("
  | .rp => .str ")"
def wtV : Wt → V
  | .op o => .str o.sign
  | .lp => .str "("
def signsV : V := .tup [.str "+", .str "-", .str "*", .str "^"]
def tailL : List Int := [8, 5, 3, 6, 1, 3, 9, 3]
structure Gs5 (G : Gl) (ar am ak as_ al at_ asd aw af aa ard ab ap : Addr) : Prop where
  nred : G.mg (Str.ofString "reduce") = some (.ref ar)
  red : RFn G ar am
  kred : Kp G (.ref ar)
  nrank : G.mg (Str.ofString "_law_RANK") = some (.ref ak)
  rank : Fn G ak 4 .none
  krank : Kp G (.ref ak)
  nsigns : G.mg (Str.ofString "_law_SIGNS") = some (.ref as_)
  signs : ∀ W : Wd, (∀ a o, G.s0.heap.get? a = some o → W a = .froz o) → VR G.w W signsV (.ref as_)
  ntail : G.mg (Str.ofString "_law_TAIL") = some (.ref al)
  tail : ∀ W : Wd, (∀ a o, G.s0.heap.get? a = some o → W a = .froz o) → VR G.w W (.lst (tailL.map V.int)) (.ref al)
  ntree : G.mg (Str.ofString "_law_tree") = some (.ref at_)
  tree : Fn G at_ 7 .none
  ktree : Kp G (.ref at_)
  nside : G.mg (Str.ofString "_law_side") = some (.ref asd)
  side : Fn G asd 8 .none
  kside : Kp G (.ref asd)
  nwrite : G.mg (Str.ofString "_law_write") = some (.ref aw)
  write : Fn G aw 9 .none
  kwrite : Kp G (.ref aw)
  nfull : G.mg (Str.ofString "_law_full") = some (.ref af)
  full : Fn G af 10 .none
  kfull : Kp G (.ref af)
  nafter : G.mg (Str.ofString "_law_after") = some (.ref aa)
  after : Fn G aa 11 .none
  kafter : Kp G (.ref aa)
  nread : G.mg (Str.ofString "_law_read") = some (.ref ard)
  read : Fn G ard 12 .none
  kread : Kp G (.ref ard)
  nbuild : G.mg (Str.ofString "_law_build") = some (.ref ab)
  build : Fn G ab 13 .none
  kbuild : Kp G (.ref ab)
  nparse : G.mg (Str.ofString "_law_parse") = some (.ref ap)
  parse : Fn G ap 14 .none
  kparse : Kp G (.ref ap)
  nlen : G.mg (Str.ofString "len") = none
  nrange : G.mg (Str.ofString "range") = none
  nlist : G.mg (Str.ofString "list") = none
  nisi : G.mg (Str.ofString "isinstance") = none
  ntup : G.mg (Str.ofString "tuple") = none
theorem c_len : bootBuiltins (Str.ofString "len") = some (.builtin "len") := by decide +kernel
theorem c_range : bootBuiltins (Str.ofString "range") = some (.type "range") := by decide +kernel
theorem c_list : bootBuiltins (Str.ofString "list") = some (.type "list") := by decide +kernel
theorem c_isi : bootBuiltins (Str.ofString "isinstance") = some (.builtin "isinstance") := by decide +kernel
theorem c_tup : bootBuiltins (Str.ofString "tuple") = some (.type "tuple") := by decide +kernel
section
variable {G : Gl} {ar am ak as_ al at_ asd aw af aa ard ab ap : Addr} (H : Gs5 G ar am ak as_ al at_ asd aw af aa ard ab ap)
include H
theorem rank_spec (sto : List MO) (hs : Clo sto) : Calls G 1 (.ref ak) [] sto fun v s => v = .dct (mkv rankD) ∧ s = sto := by
  refine Calls_trim (Q' := fun v s => v = .ref sto.length ∧ s = sto ++ [.dict (mkv rankD)]) ?_ fun v s h => ⟨_, sto, ?_, rfl, rfl⟩
  · refine fn_calls H.rank [] (fun nm kV doc pm an cd ct w W xs hx => ?_) (by rfl) ?_
    · cases hx; exact ⟨_, .nil, rfl⟩
    · show Exs _ (_ :: _) _ _
      repeat walk_at "ev"
      refine Ev_dctD (fun _ => rfl) (by rfl) (by rfl) ?_
      have h4 : (rankD.map (·.1)).Nodup := by decide
      refine EvPs_cons (Ev_str ⟨Op.add.key, rfl, Ev_int (EvPs_cons (Ev_str ⟨Op.sub.key, rfl, Ev_int (EvPs_cons (Ev_str ⟨Op.mul.key, rfl, Ev_int (EvPs_cons (Ev_str ⟨Op.pow.key, rfl, Ev_int (EvPs_nil ?_)⟩))⟩))⟩))⟩)
      refine ⟨by simp, h4, ?_⟩
      repeat walk_at "ev"
      refine ⟨rfl, ?_⟩
      simp [rankD]
  · rw [h.1, h.2]
    refine ⟨.newd (ds := mkv rankD) (Nat.le_refl _) (by simp) (.cons (.int _) (.cons (.int _) (.cons (.int _) (.cons (.int _) .nil)))), rfl, by simp, fun i m m' hi e e' => ?_⟩
    rw [List.getElem?_append_left hi, e'] at e
    cases e
    exact MO.res (hs _ (List.mem_of_getElem? e'))
end
def T.lv : T → Nat
  | .leaf _ => 1
  | .node _ l r => l.lv + r.lv
def T.dep : T → Nat
  | .leaf _ => 0
  | .node _ l r => max l.dep r.dep + 1
theorem after_len : ∀ t : T, t.after.length + 1 = 2 * t.lv
  | .leaf _ => rfl
  | .node o l r => by
    have := after_len l
    have := after_len r
    simp only [T.after, T.lv, List.length_append, List.length_cons, List.length_nil]
    omega
section
variable {G : Gl} {ar am ak as_ al at_ asd aw af aa ard ab ap : Addr} (H : Gs5 G ar am ak as_ al at_ asd aw af aa ard ab ap)
include H
theorem after_spec : ∀ (t : T), t.lv ≤ 1000 → ∀ sto : List MO, Calls G (t.dep + 1) (.ref aa) [tV t] sto fun v s => v = .lst (t.after.map tokV) ∧ s = sto
  | .leaf i, _, sto => by
    refine fn_calls H.after [("tree", .int i)] (fun nm kV doc pm an cd ct w W xs hx => ?_) (by rfl) ?_
    · obtain ⟨x, rfl, r⟩ := one_of hx
      exact ⟨_, .cons r .nil, rfl⟩
    · show Exs _ (_ :: _) _ _
      repeat walk_at "ev"
      refine Tst_val (fun _ => rfl) ?_
      repeat walk_at "ev"
      refine Ev_boot H.nisi c_isi (by rfl) ⟨_, rfl, Kp_builtin, ?_⟩
      repeat walk_at "ev"
      refine Ev_boot H.ntup c_tup (by rfl) ?_
      repeat walk_at "ev"
      refine Call_isi_int ?_
      repeat walk_at "ev"
      simp only [Bool.not_false, if_true]
      show Exs _ (_ :: _) _ _
      repeat walk_at "ev"
      refine Ev_lst (by decide) ?_
      repeat walk_at "ev"
      exact ⟨rfl, rfl⟩
  | .node o l r, hlv, sto => by
    have hl : l.lv ≤ 1000 := by simp only [T.lv] at hlv; omega
    have hr : r.lv ≤ 1000 := by simp only [T.lv] at hlv; omega
    have n1 := after_len l
    have n2 := after_len r
    have hlv' : l.lv + r.lv ≤ 1000 := hlv
    have il := after_spec l hl
    have ir := after_spec r hr
    refine fn_calls H.after [("tree", .tup [.str o.sign, tV l, tV r])] (fun nm kV doc pm an cd ct w W xs hx => ?_) (by rfl) ?_
    · obtain ⟨x, rfl, r⟩ := one_of hx
      exact ⟨_, .cons r .nil, rfl⟩
    · show Exs _ (_ :: _) _ _
      repeat walk_at "ev"
      refine Tst_val (fun _ => rfl) ?_
      repeat walk_at "ev"
      refine Ev_boot H.nisi c_isi (by rfl) ⟨_, rfl, Kp_builtin, ?_⟩
      repeat walk_at "ev"
      refine Ev_boot H.ntup c_tup (by rfl) ?_
      repeat walk_at "ev"
      refine Call_isi_tup ?_
      repeat walk_at "ev"
      simp only [Bool.not_true, Bool.false_eq_true, if_false]
      repeat walk_at "ev"
      refine Ev_glob H.nafter (by rfl) ⟨_, rfl, H.kafter, ?_⟩
      repeat walk_at "ev"
      refine Sub_tup (show 3 < 2 ^ 60 by decide) (v := tV l) (by rfl) ?_
      repeat walk_at "ev"
      refine CallV_fun ((il _).mono ?_) (by show l.dep + 1 ≤ max l.dep r.dep + 1; omega)
      rintro v s ⟨rfl, rfl⟩
      repeat walk_at "ev"
      refine Ev_glob H.nafter (by rfl) ⟨_, rfl, H.kafter, ?_⟩
      repeat walk_at "ev"
      refine Sub_tup (show 3 < 2 ^ 60 by decide) (v := tV r) (by rfl) ?_
      repeat walk_at "ev"
      refine CallV_fun ((ir _).mono ?_) (by show r.dep + 1 ≤ max l.dep r.dep + 1; omega)
      rintro v s ⟨rfl, rfl⟩
      refine Bin_cat (.inl rfl) (.inl rfl) (by simp [sizeLine_eq]; omega) ?_
      repeat walk_at "ev"
      refine Ev_lst (by decide) ?_
      repeat walk_at "ev"
      refine Sub_tup (show 3 < 2 ^ 60 by decide) (v := .str o.sign) (by rfl) ?_
      repeat walk_at "ev"
      refine Bin_cat (.inl rfl) (.inl rfl) (by simp [sizeLine_eq]; omega) ?_
      repeat walk_at "ev"
      refine ⟨?_, rfl⟩
      show V.lst _ = V.lst _
      simp [T.after, tokV]
end
theorem full_len : ∀ t : T, t.fullB.flat.length + 3 = 4 * t.lv
  | .leaf _ => rfl
  | .node o l r => by
    have := full_len l
    have := full_len r
    simp only [T.fullB, B.flat, T.lv, List.length_append, List.length_cons, List.length_nil]
    omega
section
variable {G : Gl} {ar am ak as_ al at_ asd aw af aa ard ab ap : Addr} (H : Gs5 G ar am ak as_ al at_ asd aw af aa ard ab ap)
include H
theorem full_spec : ∀ (t : T), t.lv ≤ 1000 → ∀ sto : List MO, Calls G (t.dep + 1) (.ref af) [tV t] sto fun v s => v = .lst (t.fullB.flat.map tokV) ∧ s = sto
  | .leaf i, _, sto => by
    refine fn_calls H.full [("tree", .int i)] (fun nm kV doc pm an cd ct w W xs hx => ?_) (by rfl) ?_
    · obtain ⟨x, rfl, r⟩ := one_of hx
      exact ⟨_, .cons r .nil, rfl⟩
    · show Exs _ (_ :: _) _ _
      repeat walk_at "ev"
      refine Tst_val (fun _ => rfl) ?_
      repeat walk_at "ev"
      refine Ev_boot H.nisi c_isi (by rfl) ⟨_, rfl, Kp_builtin, ?_⟩
      repeat walk_at "ev"
      refine Ev_boot H.ntup c_tup (by rfl) ?_
      repeat walk_at "ev"
      refine Call_isi_int ?_
      repeat walk_at "ev"
      simp only [Bool.not_false, if_true]
      show Exs _ (_ :: _) _ _
      repeat walk_at "ev"
      refine Ev_lst (by decide) ?_
      repeat walk_at "ev"
      exact ⟨rfl, rfl⟩
  | .node o l r, hlv, sto => by
    have hl : l.lv ≤ 1000 := by simp only [T.lv] at hlv; omega
    have hr : r.lv ≤ 1000 := by simp only [T.lv] at hlv; omega
    have n1 := full_len l
    have n2 := full_len r
    have hlv' : l.lv + r.lv ≤ 1000 := hlv
    have il := full_spec l hl
    have ir := full_spec r hr
    refine fn_calls H.full [("tree", .tup [.str o.sign, tV l, tV r])] (fun nm kV doc pm an cd ct w W xs hx => ?_) (by rfl) ?_
    · obtain ⟨x, rfl, r⟩ := one_of hx
      exact ⟨_, .cons r .nil, rfl⟩
    · show Exs _ (_ :: _) _ _
      repeat walk_at "ev"
      refine Tst_val (fun _ => rfl) ?_
      repeat walk_at "ev"
      refine Ev_boot H.nisi c_isi (by rfl) ⟨_, rfl, Kp_builtin, ?_⟩
      repeat walk_at "ev"
      refine Ev_boot H.ntup c_tup (by rfl) ?_
      repeat walk_at "ev"
      refine Call_isi_tup ?_
      repeat walk_at "ev"
      simp only [Bool.not_true, Bool.false_eq_true, if_false]
      repeat walk_at "ev"
      refine Ev_lst (by decide) ?_
      repeat walk_at "ev"
      refine Ev_glob H.nfull (by rfl) ⟨_, rfl, H.kfull, ?_⟩
      repeat walk_at "ev"
      refine Sub_tup (show 3 < 2 ^ 60 by decide) (v := tV l) (by rfl) ?_
      repeat walk_at "ev"
      refine CallV_fun ((il _).mono ?_) (by show l.dep + 1 ≤ max l.dep r.dep + 1; omega)
      rintro v s ⟨rfl, rfl⟩
      refine Bin_cat (.inl rfl) (.inl rfl) (by simp [sizeLine_eq]; omega) ?_
      repeat walk_at "ev"
      refine Ev_lst (by decide) ?_
      repeat walk_at "ev"
      refine Sub_tup (show 3 < 2 ^ 60 by decide) (v := .str o.sign) (by rfl) ?_
      repeat walk_at "ev"
      refine Bin_cat (.inl rfl) (.inl rfl) (by simp [sizeLine_eq]; omega) ?_
      repeat walk_at "ev"
      refine Ev_glob H.nfull (by rfl) ⟨_, rfl, H.kfull, ?_⟩
      repeat walk_at "ev"
      refine Sub_tup (show 3 < 2 ^ 60 by decide) (v := tV r) (by rfl) ?_
      repeat walk_at "ev"
      refine CallV_fun ((ir _).mono ?_) (by show r.dep + 1 ≤ max l.dep r.dep + 1; omega)
      rintro v s ⟨rfl, rfl⟩
      refine Bin_cat (.inl rfl) (.inl rfl) (by simp [sizeLine_eq]; omega) ?_
      repeat walk_at "ev"
      refine Ev_lst (by decide) ?_
      repeat walk_at "ev"
      refine Bin_cat (.inl rfl) (.inl rfl) (by simp [sizeLine_eq]; omega) ?_
      repeat walk_at "ev"
      refine ⟨?_, rfl⟩
      show V.lst _ = V.lst _
      simp [T.fullB, B.flat, tokV]
end
theorem rank_nd : (rankD.map (·.1)).Nodup := by decide
theorem rank_at (o : Op) : (rankD.find? fun p => p.1 = o.key) = some (o.key, .int o.rank) := by cases o <;> rfl
theorem sign_inj {o o' : Op} (h : o.sign = o'.sign) : o = o' := by revert h; cases o <;> cases o' <;> decide
theorem sign_pow {r : Bool} {o : Op} (h : r = true ↔ V.str o.sign = V.str (Str.ofString "^")) : r = o.isPow := by
  have : (V.str o.sign = V.str (Str.ofString "^")) ↔ o.isPow = true := by
    constructor
    · intro e; injection e with e; have := sign_inj (o' := .pow) e; subst this; rfl
    · intro e; have : o = .pow := of_decide_eq_true e; subst this; rfl
  exact Bool.eq_iff_iff.mpr (h.trans this)
theorem sign_npow {r : Bool} {o : Op} (h : r = true ↔ V.str o.sign ≠ V.str (Str.ofString "^")) : r = !o.isPow := by
  have : (V.str o.sign = V.str (Str.ofString "^")) ↔ o.isPow = true := by
    constructor
    · intro e; injection e with e; have := sign_inj (o' := .pow) e; subst this; rfl
    · intro e; have : o = .pow := of_decide_eq_true e; subst this; rfl
  apply Bool.eq_iff_iff.mpr
  rw [h, ne_eq, this]; simp
theorem sign_ok (o : Op) : (V.str o.sign).ok 8 = true := by cases o <;> decide +kernel
theorem caret_ok : (V.str (Str.ofString "^")).ok 8 = true := by decide +kernel
theorem toB_len : ∀ t : T, (t.toB.flat.length ≤ t.fullB.flat.length) ∧ ∀ n : Nat × Bool, (wrap (t.need n.1 n.2) t.toB).flat.length ≤ t.fullB.flat.length
  | .leaf _ => ⟨Nat.le_refl _, fun _ => Nat.le_refl _⟩
  | .node o l r => by
    have a := (toB_len l).2 (o.rank, o.isPow)
    have b := (toB_len r).2 (o.rank, !o.isPow)
    have c : (T.node o l r).toB.flat.length + 2 ≤ (T.node o l r).fullB.flat.length := by
      simp only [T.toB, T.fullB, B.flat, List.length_append, List.length_cons, List.length_nil] at *
      omega
    refine ⟨by omega, fun n => ?_⟩
    generalize (T.node o l r).need n.1 n.2 = w
    cases w
    · exact Nat.le_trans (Nat.le_add_right _ 2) c
    · show (B.par (T.node o l r).toB).flat.length ≤ _
      simp only [B.flat, List.length_append, List.length_cons, List.length_nil] at *
      omega
section
variable {G : Gl} {ar am ak as_ al at_ asd aw af aa ard ab ap : Addr} (H : Gs5 G ar am ak as_ al at_ asd aw af aa ard ab ap)
include H
theorem side_of {t : T} {n rk : Nat} {st : Bool} {sto : List MO} (hs : Clo sto) (hlv : t.lv ≤ 1000) (hn : 1 ≤ n) (hw : Calls G n (.ref aw) [tV t] sto fun v s => v = .lst (t.toB.flat.map tokV) ∧ s = sto) :
    Calls G (n + 1) (.ref asd) [tV t, .int rk, .bool st] sto fun v s => v = .lst ((wrap (t.need rk st) t.toB).flat.map tokV) ∧ s = sto := by
  have hl : t.toB.flat.length ≤ 4000 := by have := (toB_len t).1; have := full_len t; omega
  refine fn_calls H.side [("child", tV t), ("rank", .int rk), ("strict", .bool st)] (fun nm kV doc pm an cd ct w W xs hx => ?_) (by rfl) ?_
  · obtain ⟨x, y, z, rfl, r1, r2, r3⟩ := three_of hx
    exact ⟨_, .cons r1 (.cons r2 (.cons r3 .nil)), rfl⟩
  · show Exs _ (_ :: _) _ _
    repeat walk_at "ev"
    refine Ev_glob H.nwrite (by rfl) ⟨_, rfl, H.kwrite, ?_⟩
    repeat walk_at "ev"
    refine CallV_fun (hw.mono ?_) (Nat.le_refl _)
    rintro v s ⟨rfl, rfl⟩
    repeat walk_at "ev"
    refine Tst_val (fun _ => rfl) ?_
    repeat walk_at "ev"
    refine Ev_boot H.nisi c_isi (by rfl) ⟨_, rfl, Kp_builtin, ?_⟩
    repeat walk_at "ev"
    refine Ev_boot H.ntup c_tup (by rfl) ?_
    repeat walk_at "ev"
    match t, hlv, hl, hw with
    | .leaf i, hlv, hl, hw =>
      refine Call_isi_int ?_
      repeat walk_at "ev"
      simp only [Bool.false_eq_true, if_false]
      repeat walk_at "ev"
      exact ⟨rfl, rfl⟩
    | .node o l r, hlv, hl, hw =>
      refine Call_isi_tup ?_
      repeat walk_at "ev"
      simp only [if_true]
      repeat walk_at "ev"
      refine Ev_glob H.nrank (by rfl) ⟨_, rfl, H.krank, ?_⟩
      repeat walk_at "ev"
      refine CallV_fun ((rank_spec H _ hs).mono ?_) hn
      rintro v s ⟨rfl, rfl⟩
      repeat walk_at "ev"
      refine Sub_tup (show 3 < 2 ^ 60 by decide) (v := .str o.sign) (by rfl) ?_
      refine Sub_dct rank_nd (rank_at o) ?_
      repeat walk_at "ev"
      refine ite_of (fun e1 => ?_) (fun e1 => ?_)
      · simp only [if_true]
        repeat walk_at "ev"
        refine ite_of (fun _ => ?_) (fun e => absurd e (by decide))
        show Exs _ (_ :: _) _ _
        repeat walk_at "ev"
        refine Ev_lst (by decide) ?_
        repeat walk_at "ev"
        refine Bin_cat (.inl rfl) (.inl rfl) (by simp [sizeLine_eq]; omega) ?_
        repeat walk_at "ev"
        refine Ev_lst (by decide) ?_
        repeat walk_at "ev"
        refine Bin_cat (.inl rfl) (.inl rfl) (by simp [sizeLine_eq]; omega) ?_
        repeat walk_at "ev"
        refine ⟨?_, rfl⟩
        have : (T.node o l r).need rk st = true := by
          simp only [decide_eq_true_eq, Int.ofNat_lt] at e1
          simp [T.need, need, e1]
        show V.lst _ = V.lst _
        rw [this]
        simp [wrap, B.flat, tokV]
      · repeat walk_at "ev"
        refine Ev_glob H.nrank (by rfl) ⟨_, rfl, H.krank, ?_⟩
        repeat walk_at "ev"
        refine CallV_fun ((rank_spec H _ hs).mono ?_) hn
        rintro v s ⟨rfl, rfl⟩
        repeat walk_at "ev"
        refine Sub_tup (show 3 < 2 ^ 60 by decide) (v := .str o.sign) (by rfl) ?_
        refine Sub_dct rank_nd (rank_at o) ?_
        repeat walk_at "ev"
        refine ite_of (fun e2 => ?_) (fun e2 => ?_)
        · repeat walk_at "ev"
          refine Tst_val (fun _ => rfl) ?_
          repeat walk_at "ev"
          refine ite_of (fun e3 => ?_) (fun e3 => ?_)
          · refine All_nil ?_
            simp only [beq_self_eq_true, if_true]
            repeat walk_at "ev"
            refine ite_of (fun _ => ?_) (fun e => absurd e (by decide))
            show Exs _ (_ :: _) _ _
            repeat walk_at "ev"
            refine Ev_lst (by decide) ?_
            repeat walk_at "ev"
            refine Bin_cat (.inl rfl) (.inl rfl) (by simp [sizeLine_eq]; omega) ?_
            repeat walk_at "ev"
            refine Ev_lst (by decide) ?_
            repeat walk_at "ev"
            refine Bin_cat (.inl rfl) (.inl rfl) (by simp [sizeLine_eq]; omega) ?_
            repeat walk_at "ev"
            refine ⟨?_, rfl⟩
            have : (T.node o l r).need rk st = true := by
              have e2 : o.rank = rk := by have := eq_of_beq e2; omega
              simp [T.need, need, e2, e3]
            show V.lst _ = V.lst _
            rw [this]
            simp [wrap, B.flat, tokV]
          · simp only [Bool.false_eq_true, if_false]
            refine All_nil ?_
            refine ite_of (fun e => absurd e (by decide)) (fun _ => ?_)
            repeat walk_at "ev"
            have : (T.node o l r).need rk st = false := by
              simp only [decide_eq_false_iff_not, Int.ofNat_lt] at e1
              simp [T.need, need, e1, e3]
            refine ⟨?_, rfl⟩
            rw [this]; rfl
        · simp only [Bool.false_eq_true, if_false]
          refine All_nil ?_
          refine ite_of (fun e => absurd e (by decide)) (fun _ => ?_)
          repeat walk_at "ev"
          have : (T.node o l r).need rk st = false := by
            simp only [decide_eq_false_iff_not, Int.ofNat_lt] at e1
            have e2 : ¬ o.rank = rk := fun h => by rw [h, beq_self_eq_true] at e2; cases e2
            simp [T.need, need, e1, e2]
          refine ⟨?_, rfl⟩
          rw [this]; rfl
theorem write_spec {sto : List MO} (hs : Clo sto) : ∀ (t : T), t.lv ≤ 1000 → Calls G (2 * t.dep + 1) (.ref aw) [tV t] sto fun v s => v = .lst (t.toB.flat.map tokV) ∧ s = sto
  | .leaf i, _ => by
    refine fn_calls H.write [("tree", .int i)] (fun nm kV doc pm an cd ct w W xs hx => ?_) (by rfl) ?_
    · obtain ⟨x, rfl, r⟩ := one_of hx
      exact ⟨_, .cons r .nil, rfl⟩
    · show Exs _ (_ :: _) _ _
      repeat walk_at "ev"
      refine Tst_val (fun _ => rfl) ?_
      repeat walk_at "ev"
      refine Ev_boot H.nisi c_isi (by rfl) ⟨_, rfl, Kp_builtin, ?_⟩
      repeat walk_at "ev"
      refine Ev_boot H.ntup c_tup (by rfl) ?_
      repeat walk_at "ev"
      refine Call_isi_int ?_
      repeat walk_at "ev"
      simp only [Bool.not_false, if_true]
      show Exs _ (_ :: _) _ _
      repeat walk_at "ev"
      refine Ev_lst (by decide) ?_
      repeat walk_at "ev"
      exact ⟨rfl, rfl⟩
  | .node o l r, hlv => by
    have hl : l.lv ≤ 1000 := by simp only [T.lv] at hlv; omega
    have hr : r.lv ≤ 1000 := by simp only [T.lv] at hlv; omega
    have n1 := full_len l
    have n2 := full_len r
    have hlv' : l.lv + r.lv ≤ 1000 := hlv
    have m1 : (wrap (l.need o.rank o.isPow) l.toB).flat.length ≤ _ := (toB_len l).2 (o.rank, o.isPow)
    have m2 : (wrap (r.need o.rank (!o.isPow)) r.toB).flat.length ≤ _ := (toB_len r).2 (o.rank, !o.isPow)
    have il := (write_spec hs l hl).more (k := 2 * (max l.dep r.dep) + 1) (by omega)
    have ir := (write_spec hs r hr).more (k := 2 * (max l.dep r.dep) + 1) (by omega)
    show Calls G ((2 * (max l.dep r.dep + 1)) + 1) _ _ _ _
    refine fn_calls H.write [("tree", .tup [.str o.sign, tV l, tV r])] (fun nm kV doc pm an cd ct w W xs hx => ?_) (by rfl) ?_
    · obtain ⟨x, rfl, r⟩ := one_of hx
      exact ⟨_, .cons r .nil, rfl⟩
    · show Exs _ (_ :: _) _ _
      repeat walk_at "ev"
      refine Tst_val (fun _ => rfl) ?_
      repeat walk_at "ev"
      refine Ev_boot H.nisi c_isi (by rfl) ⟨_, rfl, Kp_builtin, ?_⟩
      repeat walk_at "ev"
      refine Ev_boot H.ntup c_tup (by rfl) ?_
      repeat walk_at "ev"
      refine Call_isi_tup ?_
      repeat walk_at "ev"
      simp only [Bool.not_true, Bool.false_eq_true, if_false]
      repeat walk_at "ev"
      refine Ev_glob H.nrank (by rfl) ⟨_, rfl, H.krank, ?_⟩
      repeat walk_at "ev"
      refine CallV_fun ((rank_spec H _ hs).mono ?_) (by show 1 ≤ 2 * (max l.dep r.dep + 1); omega)
      rintro v s ⟨rfl, rfl⟩
      repeat walk_at "ev"
      refine Sub_tup (show 3 < 2 ^ 60 by decide) (v := .str o.sign) (by rfl) ?_
      refine Sub_dct rank_nd (rank_at o) ?_
      repeat walk_at "ev"
      refine Ev_glob H.nside (by rfl) ⟨_, rfl, H.kside, ?_⟩
      repeat walk_at "ev"
      refine Sub_tup (show 3 < 2 ^ 60 by decide) (v := tV l) (by rfl) ?_
      repeat walk_at "ev"
      refine Sub_tup (show 3 < 2 ^ 60 by decide) (v := .str o.sign) (by rfl) ?_
      repeat walk_at "ev"
      refine Cmp_eq (Rd.data (sign_ok o)) (Rd.data caret_ok) fun b hb => ?_
      rw [sign_pow hb]
      repeat walk_at "ev"
      refine CallV_fun ((side_of H hs hl (by omega) il).mono ?_) (by show _ ≤ 2 * (max l.dep r.dep + 1); omega)
      rintro v s ⟨rfl, rfl⟩
      repeat walk_at "ev"
      refine Ev_lst (by decide) ?_
      repeat walk_at "ev"
      refine Sub_tup (show 3 < 2 ^ 60 by decide) (v := .str o.sign) (by rfl) ?_
      repeat walk_at "ev"
      refine Bin_cat (.inl rfl) (.inl rfl) (by simp [sizeLine_eq]; omega) ?_
      repeat walk_at "ev"
      refine Ev_glob H.nside (by rfl) ⟨_, rfl, H.kside, ?_⟩
      repeat walk_at "ev"
      refine Sub_tup (show 3 < 2 ^ 60 by decide) (v := tV r) (by rfl) ?_
      repeat walk_at "ev"
      refine Sub_tup (show 3 < 2 ^ 60 by decide) (v := .str o.sign) (by rfl) ?_
      repeat walk_at "ev"
      refine Cmp_ne (Rd.data (sign_ok o)) (Rd.data caret_ok) fun b hb => ?_
      rw [sign_npow hb]
      repeat walk_at "ev"
      refine CallV_fun ((side_of H hs hr (by omega) ir).mono ?_) (by show _ ≤ 2 * (max l.dep r.dep + 1); omega)
      rintro v s ⟨rfl, rfl⟩
      refine Bin_cat (.inl rfl) (.inl rfl) (by simp [sizeLine_eq]; omega) ?_
      repeat walk_at "ev"
      refine ⟨?_, rfl⟩
      show V.lst _ = V.lst _
      simp [T.toB, B.flat, tokV]
end
theorem Tst_sub {c : Cx} {e : Expr} {l l' : List (Str × V)} {sto : List MO} {Q : Bool → St → Prop} (k : Sub l' l) (h : Tst c e ⟨l', sto⟩ Q) : Tst c e ⟨l, sto⟩ Q := DoG.sub h k
theorem at_m1 {α : Type} (f : α → V) (us : List α) (l r : α) : itemAt ((us ++ [l, r]).map f) (-1) = some (f r) := by
  unfold itemAt
  rw [if_neg (by decide), if_pos (by simp; omega), show (-1 + (((us ++ [l, r]).map f).length : Int)).toNat = us.length + 1 by simp; omega]
  rw [List.getElem?_map, List.getElem?_append_right (by omega)]
  simp
theorem at_m2 {α : Type} (f : α → V) (us : List α) (l r : α) : itemAt ((us ++ [l, r]).map f) (-2) = some (f l) := by
  unfold itemAt
  rw [if_neg (by decide), if_pos (by simp; omega), show (-2 + (((us ++ [l, r]).map f).length : Int)).toNat = us.length by simp; omega]
  rw [List.getElem?_map, List.getElem?_append_right (by omega)]
  simp
theorem slc_m2 {α : Type} (f : α → V) (us : List α) (l r : α) : slc ((us ++ [l, r]).map f) none (some (-2)) none = us.map f := by
  have := slc_to_neg ((us ++ [l, r]).map f) 2 (by decide)
  rw [show (-((2 : Nat) : Int)) = -2 by rfl] at this
  rw [this, List.map_append, List.take_left' (by simp)]
theorem last_two {α : Type} {ts : List α} (h : 2 ≤ ts.length) : ∃ us l r, ts = us ++ [l, r] := by
  refine ⟨ts.take (ts.length - 2), ts[ts.length - 2], ts[ts.length - 1], ?_⟩
  have : ts.drop (ts.length - 2) = [ts[ts.length - 2], ts[ts.length - 1]] := by
    rw [List.drop_eq_getElem_cons (by omega), List.drop_eq_getElem_cons (by omega), List.drop_eq_nil_of_le (by omega)]
    simp [show ts.length - 2 + 1 = ts.length - 1 by omega]
  rw [← this, List.take_append_drop]
theorem sign_at (i : Int) (h0 : 0 ≤ i) (h4 : i < 4) : ∃ o : Op, itemAt [.str "+", .str "-", .str "*", .str "^"] i = some (.str o.sign) := by
  rcases (by omega : i = 0 ∨ i = 1 ∨ i = 2 ∨ i = 3) with rfl | rfl | rfl | rfl
  · exact ⟨.add, rfl⟩
  · exact ⟨.sub, rfl⟩
  · exact ⟨.mul, rfl⟩
  · exact ⟨.pow, rfl⟩
def lvs (ts : List T) : Nat := (ts.map T.lv).sum
theorem lvs_app (ts us : List T) : lvs (ts ++ us) = lvs ts + lvs us := by unfold lvs; rw [List.map_append, List.sum_append]
theorem len_lvs : ∀ ts : List T, ts.length ≤ lvs ts
  | [] => Nat.le_refl _
  | t :: ts => by
    have := len_lvs ts
    have h : 1 ≤ t.lv := by cases t <;> simp only [T.lv] <;> (try omega); rename_i o l r; have := after_len l; omega
    show ts.length + 1 ≤ (t.lv :: ts.map T.lv).sum
    rw [List.sum_cons]
    unfold lvs at this
    omega
section
variable {G : Gl} {ar am ak as_ al at_ asd aw af aa ard ab ap : Addr} (H : Gs5 G ar am ak as_ al at_ asd aw af aa ard ab ap)
include H
theorem tree_spec (ns : List Int) (hz : ns.length < 1000000) : Calls G 1 (.ref at_) [.lst (ns.map V.int)] [] fun v s => ∃ t : T, t.lv ≤ 20 ∧ v = tV t ∧ s = [] := by
  refine Calls_trim (Q' := fun v s => ∃ t : T, t.lv ≤ 20 ∧ v = tV t) ?_ fun v s ⟨t, h1, h2⟩ => ⟨v, [], ?_, t, h1, h2, rfl⟩
  · refine fn_calls H.tree [("script", .lst (ns.map V.int))] (fun nm kV doc pm an cd ct w W xs hx => ?_) (by rfl) ?_
    · obtain ⟨x, rfl, r⟩ := one_of hx
      exact ⟨_, .cons r .nil, rfl⟩
    · show Exs _ (_ :: _) _ _
      repeat walk_at "ev"
      refine Ev_lstC (by decide) ?_
      repeat walk_at "ev"
      refine Ex_for (fun k σ => k ≤ 20 ∧ ∃ (ts : List T) (j : Nat) (l' : List (Str × V)) (sto : List MO), σ = ⟨l', sto⟩ ∧ sto[j]? = some (.list (ts.map tV)) ∧ lvs ts ≤ k ∧ (0 < k → ts ≠ []) ∧ Sub [("stack", .ref j)] l') (fun _ _ => rfl) ?_
      repeat walk_at "ev"
      refine ⟨_, rfl, ?_⟩
      repeat walk_at "ev"
      refine ⟨fun e => (nomatch e), ns.map V.int, .inl rfl, by simpa using hz, ?_⟩
      rw [slc_map, show ((12 : Int)) = ((12 : Nat) : Int) by rfl, slc_to]
      refine Ev_data H.ntail (by rfl) H.tail ?_
      have h12 : (ns.take 12).length ≤ 12 := by rw [List.length_take]; omega
      refine Bin_cat (.inl rfl) (.inl rfl) (by simp [sizeLine_eq, tailL]; omega) ?_
      rw [← List.map_append]
      have hlen : (((ns.take 12) ++ tailL).map V.int).length ≤ 20 := by rw [List.length_map, List.length_append]; show _ + 8 ≤ 20; omega
      have hpos : 0 < (((ns.take 12) ++ tailL).map V.int).length := by rw [List.length_map, List.length_append]; show 0 < _ + 8; omega
      refine ⟨_, .lst _, ⟨by decide, [], 0, _, _, rfl, rfl, Nat.le_refl _, fun h => absurd h (by decide), .cons rfl .nil⟩, ?_, ?_⟩
      · rintro k v σ' hv ⟨hk, ts, j, l', sto, rfl, hj, hlv, -, hsub⟩
        have hkb := (List.getElem?_eq_some_iff.mp hv).1
        obtain ⟨x, rfl⟩ : ∃ x : Int, v = .int x := by
          have := List.mem_of_getElem? hv
          obtain ⟨x, -, rfl⟩ := List.mem_map.mp this
          exact ⟨x, rfl⟩
        have hts := len_lvs ts
        refine Asg_sub hsub ?_
        clear hsub hv
        repeat walk_at "ev"
        have done : Exs (cx G 7 0) (match (bodyAt 7).getD 1 (.Pass ⟨0, 0, 0, 0⟩) with | .For _ _ (.If _ b _ _ :: _) _ _ => b | _ => []) ⟨[("x", .int x), ("stack", .ref j)], sto⟩ (Then (cx G 7 0) [] (Turn ((fun k σ => k ≤ 20 ∧ ∃ (ts : List T) (j : Nat) (l' : List (Str × V)) (sto : List MO), σ = ⟨l', sto⟩ ∧ sto[j]? = some (.list (ts.map tV)) ∧ lvs ts ≤ k ∧ (0 < k → ts ≠ []) ∧ Sub [("stack", .ref j)] l') (k + 1)) (Then (cx G 7 0) ((bodyAt 7).drop 2) fun fl σ => ∃ t : T, t.lv ≤ 20 ∧ fl.val = tV t))) := by
          show Exs _ (_ :: _) _ _
          refine Exs_cons (Ex_expr (by rfl) (by rfl) ?_)
          refine Ev_meth (fun _ => rfl) (by decide) (by rfl) (by rfl) PySem.F.slot_list_append PySem.F.type_list_append ?_
          repeat walk_at "ev"
          refine ⟨⟨j, _, rfl, hj⟩, ?_⟩
          repeat walk_at "ev"
          refine Call_append hj (by simp; omega) ?_
          refine Then_next (Exs_nil (Then_next (Exs_nil ⟨[("stack", .ref j)], .cons rfl .nil, by omega, ts ++ [.leaf ((x.fdiv 2).fmod 10)], j, _, _, rfl, ?_, ?_, fun _ => by simp, .cons rfl .nil⟩)))
          · rw [List.getElem?_set_self (List.getElem?_eq_some_iff.mp hj).1, List.map_append]; rfl
          · rw [lvs_app]; show _ + 1 ≤ _; omega
        refine ite_of (fun e => ?_) (fun e => ?_)
        · simp only [if_true]
          exact done
        · repeat walk_at "ev"
          refine Ev_boot H.nlen c_len (by rfl) ⟨_, rfl, Kp_builtin, ?_⟩
          repeat walk_at "ev"
          refine Call_len (vs := ts.map tV) (.inr ⟨j, rfl, hj⟩) (by simp; omega) ?_
          repeat walk_at "ev"
          refine ite_of (fun e2 => ?_) (fun e2 => ?_)
          · simp only [if_true]
            exact done
          · refine All_nil ?_
            refine ite_of (fun e => absurd e (by decide)) (fun _ => ?_)
            have e2 : ¬ ((ts.map tV).length : Int) < 2 := of_decide_eq_false e2
            rw [List.length_map] at e2
            obtain ⟨us, l, r, rfl⟩ := last_two (ts := ts) (by omega)
            rw [lvs_app] at hlv hts
            have hlv2 : lvs [l, r] = l.lv + r.lv := by simp [lvs]
            have hus : us.length + 2 ≤ 20 := by rw [List.length_append] at hts; simp only [List.length_cons, List.length_nil] at hts; omega
            show Exs _ (_ :: _) _ _
            refine Exs_cons ?_
            refine Ex_asg (by rfl) (Ok.of (by rfl)) ?_
            repeat walk_at "ev"
            refine ⟨_, rfl, ?_⟩
            repeat walk_at "ev"
            refine ⟨fun e => (nomatch e), (us ++ [l, r]).map tV, .inr ⟨j, rfl, hj⟩, by simp; omega, ?_⟩
            rw [slc_m2]
            refine Ev_lst (by decide) ?_
            repeat walk_at "ev"
            refine Ev_data H.nsigns (by rfl) H.signs ?_
            repeat walk_at "ev"
            obtain ⟨o, ho⟩ := sign_at ((x.fdiv 2).fmod 4) (Int.fmod_nonneg_of_pos _ (by decide)) (Int.fmod_lt_of_pos _ (by decide))
            refine Sub_tup (show 4 < 2 ^ 60 by decide) ho ?_
            repeat walk_at "ev"
            refine Sub_list (vs := (us ++ [l, r]).map tV) (.inr ⟨j, rfl, hj⟩) (by simp; omega) (at_m2 tV us l r) ?_
            repeat walk_at "ev"
            refine Sub_list (vs := (us ++ [l, r]).map tV) (.inr ⟨j, rfl, hj⟩) (by simp; omega) (at_m1 tV us l r) ?_
            repeat walk_at "ev"
            refine Bin_catC (.inl rfl) (.inl rfl) (by simp [sizeLine_eq]; omega) ?_
            refine Then_next (Exs_nil (Then_next (Exs_nil ⟨[("stack", .ref sto.length)], .cons rfl .nil, by omega, us ++ [.node o l r], sto.length, _, _, rfl, ?_, ?_, fun _ => by simp, .cons rfl .nil⟩)))
            · rw [List.getElem?_append_right (Nat.le_refl _), Nat.sub_self, List.map_append]; rfl
            · rw [lvs_app]; have : lvs [T.node o l r] = l.lv + r.lv := by simp [lvs, T.lv]
              omega
      · rintro σ' ⟨hk, ts, j, l', sto, rfl, hj, hlv, hne, hsub⟩
        have hne := hne hpos
        refine Exs_nil (Then_next (Exs_sub hsub ?_))
        clear hsub
        show Exs _ (_ :: _) _ _
        refine Exs_cons (Ex_while (fun n σ => ∃ (ts : List T) (j : Nat) (l' : List (Str × V)) (sto : List MO), σ = ⟨l', sto⟩ ∧ sto[j]? = some (.list (ts.map tV)) ∧ lvs ts ≤ 20 ∧ ts.length = n ∧ ts ≠ [] ∧ Sub [("stack", .ref j)] l') ts.length ⟨[("stack", .ref j)], .cons rfl .nil, ts, j, _, _, rfl, hj, by omega, rfl, hne, .cons rfl .nil⟩ ?_)
        clear hj hlv hne hk
        rintro n σ' ⟨ts, j, l', sto, rfl, hj, hlv, rfl, hne, hsub⟩
        have hts := len_lvs ts
        refine Tst_sub hsub ?_
        clear hsub
        repeat walk_at "ev"
        refine Ev_boot H.nlen c_len (by rfl) ⟨_, rfl, Kp_builtin, ?_⟩
        repeat walk_at "ev"
        refine Call_len (vs := ts.map tV) (.inr ⟨j, rfl, hj⟩) (by simp; omega) ?_
        repeat walk_at "ev"
        refine ite_of (fun e2 => ?_) (fun e2 => ?_)
        · have e2 : ((ts.map tV).length : Int) > 1 := of_decide_eq_true e2
          rw [List.length_map] at e2
          obtain ⟨us, l, r, rfl⟩ := last_two (ts := ts) (by omega)
          rw [lvs_app] at hlv hts
          have hlv2 : lvs [l, r] = l.lv + r.lv := by simp [lvs]
          have hus : us.length + 2 ≤ 20 := by rw [List.length_append] at hts; simp only [List.length_cons, List.length_nil] at hts; omega
          show Exs _ (_ :: _) _ _
          refine Exs_cons ?_
          refine Ex_asg (by rfl) (Ok.of (by rfl)) ?_
          repeat walk_at "ev"
          refine ⟨_, rfl, ?_⟩
          repeat walk_at "ev"
          refine ⟨fun e => (nomatch e), (us ++ [l, r]).map tV, .inr ⟨j, rfl, hj⟩, by simp; omega, ?_⟩
          rw [slc_m2]
          refine Ev_lst (by decide) ?_
          repeat walk_at "ev"
          refine Ev_data H.nsigns (by rfl) H.signs ?_
          repeat walk_at "ev"
          refine Ev_boot H.nlen c_len (by rfl) ⟨_, rfl, Kp_builtin, ?_⟩
          repeat walk_at "ev"
          refine Call_len (vs := (us ++ [l, r]).map tV) (.inr ⟨j, rfl, hj⟩) (by simp; omega) ?_
          repeat walk_at "ev"
          obtain ⟨o, ho⟩ := sign_at ((((us ++ [l, r]).map tV).length : Int).fmod 4) (Int.fmod_nonneg_of_pos _ (by decide)) (Int.fmod_lt_of_pos _ (by decide))
          refine Sub_tup (show 4 < 2 ^ 60 by decide) ho ?_
          repeat walk_at "ev"
          refine Sub_list (vs := (us ++ [l, r]).map tV) (.inr ⟨j, rfl, hj⟩) (by simp; omega) (at_m2 tV us l r) ?_
          repeat walk_at "ev"
          refine Sub_list (vs := (us ++ [l, r]).map tV) (.inr ⟨j, rfl, hj⟩) (by simp; omega) (at_m1 tV us l r) ?_
          repeat walk_at "ev"
          refine Bin_catC (.inl rfl) (.inl rfl) (by simp [sizeLine_eq]; omega) ?_
          refine Then_next (Exs_nil ⟨[("stack", .ref sto.length)], .cons rfl .nil, (us ++ [T.node o l r]).length, by simp, us ++ [.node o l r], sto.length, _, _, rfl, ?_, ?_, rfl, by simp, .cons rfl .nil⟩)
          · rw [List.getElem?_append_right (Nat.le_refl _), Nat.sub_self, List.map_append]; rfl
          · rw [lvs_app]; have : lvs [T.node o l r] = l.lv + r.lv := by simp [lvs, T.lv]
            omega
        · have e2 : ¬ ((ts.map tV).length : Int) > 1 := of_decide_eq_false e2
          rw [List.length_map] at e2
          obtain ⟨t, rfl⟩ : ∃ t, ts = [t] := by
            match ts, hne, e2 with
            | [t], _, _ => exact ⟨t, rfl⟩
            | t :: u :: ts, _, e2 => exact absurd e2 (by simp; omega)
          refine Exs_nil (Then_next ?_)
          show Exs _ (_ :: _) _ _
          repeat walk_at "ev"
          refine Sub_list (vs := [t].map tV) (.inr ⟨j, rfl, hj⟩) (by simp) (v := tV t) (by rfl) ?_
          exact ⟨t, by simpa [lvs] using hlv, rfl⟩
  · have hp : v.lo 0 = true := by
      rw [h2]
      clear h1 h2
      induction t with
      | leaf i => rfl
      | node o l r i1 i2 => simp only [tV, V.lo, los, i1, i2, Bool.and_self]
    exact trim_all rfl (Nat.zero_le _) hp fun m hm => nomatch hm
end
def cD (D : List Tok5) : MO := .list (D.map tokV)
def cW (W : List Wt) : MO := .list (W.map wtV).reverse
def two5 (s : List MO) (i j : Nat) (D : List Tok5) (W : List Wt) : List MO := (s.set i (cD D)).set j (cW W)
section
variable {s : List MO} {i j : Nat} {D D' : List Tok5} {W W' : List Wt}
theorem two_i (hij : i ≠ j) (hi : i < s.length) : (two5 s i j D W)[i]? = some (cD D) := by
  unfold two5; rw [List.getElem?_set_ne (Ne.symm hij), List.getElem?_set_self hi]
theorem two_j (hj : j < s.length) : (two5 s i j D W)[j]? = some (cW W) := by
  unfold two5; rw [List.getElem?_set_self (by rw [List.length_set]; exact hj)]
theorem two_set_j : (two5 s i j D W).set j (cW W') = two5 s i j D W' := by unfold two5; rw [List.set_set]
theorem two_set_i (hij : i ≠ j) : (two5 s i j D W).set i (cD D') = two5 s i j D' W := by
  unfold two5; rw [List.set_comm _ _ (Ne.symm hij), List.set_set]
theorem two_len : (two5 s i j D W).length = s.length := by unfold two5; rw [List.length_set, List.length_set]
end
theorem tok_lo (k : Nat) (t : Tok5) : (tokV t).lo k = true := by cases t <;> rfl
theorem wt_lo (k : Nat) (t : Wt) : (wtV t).lo k = true := by cases t <;> rfl
theorem cD_lo (k : Nat) (D : List Tok5) : (cD D).lo k = true := (los_all k _).mpr fun v hv => by
  obtain ⟨t, -, rfl⟩ := List.mem_map.mp hv; exact tok_lo k t
theorem cW_lo (k : Nat) (W : List Wt) : (cW W).lo k = true := (los_all k _).mpr fun v hv => by
  obtain ⟨t, -, rfl⟩ := List.mem_map.mp (List.mem_reverse.mp hv); exact wt_lo k t
theorem Clo.set {s : List MO} {i : Nat} {m : MO} (h : Clo s) (hm : m.lo s.length = true) : Clo (s.set i m) := by
  intro o ho
  rw [List.length_set]
  rcases List.mem_or_eq_of_mem_set ho with h' | rfl
  · exact h o h'
  · exact hm
theorem two_clo {s : List MO} (i j : Nat) (D : List Tok5) (W : List Wt) (h : Clo s) : Clo (two5 s i j D W) :=
  (h.set (cD_lo _ D)).set (cW_lo _ W)
theorem cW_cons (q : Wt) (W : List Wt) : cW (q :: W) = .list ((W.map wtV).reverse ++ [wtV q]) := by unfold cW; rw [List.map_cons, List.reverse_cons]
theorem at_last (vs : List V) (v : V) : itemAt (vs ++ [v]) (-1) = some v := by
  unfold itemAt
  rw [if_neg (by decide), if_pos (by simp; omega), show (-1 + ((vs ++ [v]).length : Int)).toNat = vs.length by simp; omega]
  rw [List.getElem?_append_right (by omega)]
  simp
theorem str_ok {x : Str} (n : Nat) (h : PyData.strOk x = true) : (V.str x).ok n = true := by cases n <;> exact h
theorem sign_ok' (o : Op) : PyData.strOk o.sign = true := by cases o <;> decide +kernel
theorem tok_ok (n : Nat) (t : Tok5) : (tokV t).ok n = true := by
  cases t with
  | num i => cases n <;> rfl
  | op o => exact str_ok n (sign_ok' o)
  | lp => exact str_ok n (by decide +kernel)
  | rp => exact str_ok n (by decide +kernel)
theorem wt_ok (n : Nat) (t : Wt) : (wtV t).ok n = true := by
  cases t with
  | op o => exact str_ok n (sign_ok' o)
  | lp => exact str_ok n (by decide +kernel)
theorem lp_ok : (V.str (Str.ofString "(")).ok 8 = true := by decide +kernel
theorem rp_ok : (V.str (Str.ofString ")")).ok 8 = true := by decide +kernel
theorem wts_ok (W : List Wt) : (V.lst (W.map wtV).reverse).ok 8 = true := by
  show ((W.map wtV).reverse).all (V.ok 7) = true
  rw [List.all_eq_true]
  intro v hv
  obtain ⟨t, -, rfl⟩ := List.mem_map.mp (List.mem_reverse.mp hv)
  exact wt_ok 7 t
theorem toks_ok (n : Nat) (D : List Tok5) : (V.lst (D.map tokV)).ok (n + 1) = true := by
  show (D.map tokV).all (V.ok n) = true
  rw [List.all_eq_true]
  intro v hv
  obtain ⟨t, -, rfl⟩ := List.mem_map.mp hv
  exact tok_ok n t
theorem wt_lp (q : Wt) : wtV q = V.str (Str.ofString "(") ↔ q = .lp := by
  cases q with
  | op o => exact ⟨fun h => by injection h with h; revert h; cases o <;> decide, fun h => nomatch h⟩
  | lp => exact ⟨fun _ => rfl, fun _ => rfl⟩
theorem op_rp (o : Op) : V.str o.sign ≠ V.str (Str.ofString ")") := fun h => by injection h with h; revert h; cases o <;> decide
theorem op_lp (o : Op) : V.str o.sign ≠ V.str (Str.ofString "(") := fun h => by injection h with h; revert h; cases o <;> decide
theorem popO_len (o : Op) : ∀ (W : List Wt) (D : List Tok5), (popO o D W).1.length + (popO o D W).2.length = D.length + W.length
  | [], D => rfl
  | .lp :: W, D => rfl
  | .op q :: W, D => by
    rw [popO]
    split
    · rw [popO_len o W]; simp; omega
    · rfl
theorem popP_len : ∀ (W : List Wt) (D : List Tok5), (popP D W).1.length + (popP D W).2.length ≤ D.length + W.length
  | [], D => Nat.le_refl _
  | .lp :: W, D => by show D.length + W.length ≤ D.length + (W.length + 1); omega
  | .op q :: W, D => by
    rw [popP]
    have := popP_len W (D ++ [.op q])
    simp at this ⊢; omega
theorem step_len (s : List Tok5 × List Wt) (t : Tok5) : (step5 s t).1.length + (step5 s t).2.length ≤ s.1.length + s.2.length + 1 := by
  cases t with
  | num i => show (s.1 ++ [Tok5.num i]).length + s.2.length ≤ _; rw [List.length_append, List.length_singleton]; omega
  | op o =>
    have := popO_len o s.2 s.1
    show (popO o s.1 s.2).1.length + ((popO o s.1 s.2).2.length + 1) ≤ _
    omega
  | lp => show s.1.length + (s.2.length + 1) ≤ _; omega
  | rp =>
    have := popP_len s.2 s.1
    show (popP s.1 s.2).1.length + (popP s.1 s.2).2.length ≤ _
    omega
/-- the token can be read -/
def can5 (W : List Wt) : Tok5 → Prop
  | .rp => Wt.lp ∈ W
  | _ => True
theorem c_any (k : IK) (o : Op) (h : k = o.key) : (rankD.any fun p => p.1 = k) = true := by subst h; cases o <;> decide
theorem num_any (i : Int) : (rankD.any fun p => p.1 = (.inl i : IK)) = false := by
  simp [rankD, Op.key]
section
variable {G : Gl} {ar am ak as_ al at_ asd aw af aa ard ab ap : Addr} (H : Gs5 G ar am ak as_ al at_ asd aw af aa ard ab ap)
include H
theorem read_num {s0 : List MO} {i j : Nat} {D : List Tok5} {W : List Wt} {n : Int} (hij : i ≠ j) (hi : i < s0.length) (hj : j < s0.length) (hs : Clo s0) (hc : can5 W (.num n)) (hz : D.length + W.length ≤ 10000) :
    Calls G 2 (.ref ard) [.tup [.ref i, .ref j], tokV (.num n)] (two5 s0 i j D W) fun v s => v = .tup [.ref i, .ref j] ∧ s = two5 s0 i j (step5 (D, W) (.num n)).1 (step5 (D, W) (.num n)).2 := by
  refine fn_calls H.read [("state", .tup [.ref i, .ref j]), ("token", tokV (.num n))] (fun nm kV doc pm an cd ct w W xs hx => ?_) (by rfl) ?_
  · obtain ⟨x, y, rfl, r1, r2⟩ := two_of hx
    exact ⟨_, .cons r1 (.cons r2 .nil), rfl⟩
  · show Exs _ (_ :: _) _ _
    repeat walk_at "ev"
    refine Cmp_eq (Rd.data (tok_ok 8 (.num n))) (Rd.data rp_ok) fun b hb => ?_
    repeat walk_at "ev"
    have sub : Sub [("waiting", V.ref j), ("done", .ref i), ("token", tokV (.num n)), ("state", .tup [.ref i, .ref j])] [("waiting", V.ref j), ("done", .ref i), ("token", tokV (.num n)), ("state", .tup [.ref i, .ref j])] := .cons rfl (.cons rfl (.cons rfl (.cons rfl .nil)))
    obtain rfl : b = false := by cases b; rfl; exact absurd (hb.mp rfl) fun h => nomatch h
    simp only [Bool.false_eq_true, if_false]
    repeat walk_at "ev"
    refine Cmp_eq (Rd.data (tok_ok 8 (.num n))) (Rd.data lp_ok) fun b hb => ?_
    obtain rfl : b = false := by cases b; rfl; exact absurd (hb.mp rfl) fun h => nomatch h
    repeat walk_at "ev"
    simp only [Bool.false_eq_true, if_false]
    repeat walk_at "ev"
    refine Ev_glob H.nrank (by rfl) ⟨_, rfl, H.krank, ?_⟩
    repeat walk_at "ev"
    refine CallV_fun ((rank_spec H _ (two_clo i j D W hs)).mono ?_) (Nat.le_refl _)
    rintro v s ⟨rfl, rfl⟩
    refine Cmp_in_dct (k := .inl n) rank_nd ?_
    rw [num_any]
    repeat walk_at "ev"
    simp only [Bool.false_eq_true, if_false]
    show Exs _ (_ :: _) _ _
    refine Exs_cons (Ex_expr (by rfl) (by rfl) ?_)
    refine Ev_meth (fun _ => rfl) (by decide) (by rfl) (by rfl) PySem.F.slot_list_append PySem.F.type_list_append ?_
    repeat walk_at "ev"
    refine ⟨⟨i, D.map tokV, rfl, two_i hij hi⟩, ?_⟩
    repeat walk_at "ev"
    refine Call_append (vs := D.map tokV) (two_i hij hi) (by simp; omega) ?_
    rw [show MO.list (D.map tokV ++ [tokV (.num n)]) = cD (D ++ [.num n]) from by unfold cD; rw [List.map_append]; rfl, two_set_i hij]
    repeat walk_at "ev"
    exact ⟨rfl, rfl⟩
theorem read_lp {s0 : List MO} {i j : Nat} {D : List Tok5} {W : List Wt} (hij : i ≠ j) (hi : i < s0.length) (hj : j < s0.length) (hs : Clo s0) (hc : can5 W .lp) (hz : D.length + W.length ≤ 10000) :
    Calls G 2 (.ref ard) [.tup [.ref i, .ref j], tokV .lp] (two5 s0 i j D W) fun v s => v = .tup [.ref i, .ref j] ∧ s = two5 s0 i j (step5 (D, W) .lp).1 (step5 (D, W) .lp).2 := by
  refine fn_calls H.read [("state", .tup [.ref i, .ref j]), ("token", tokV .lp)] (fun nm kV doc pm an cd ct w W xs hx => ?_) (by rfl) ?_
  · obtain ⟨x, y, rfl, r1, r2⟩ := two_of hx
    exact ⟨_, .cons r1 (.cons r2 .nil), rfl⟩
  · show Exs _ (_ :: _) _ _
    repeat walk_at "ev"
    refine Cmp_eq (Rd.data (tok_ok 8 .lp)) (Rd.data rp_ok) fun b hb => ?_
    repeat walk_at "ev"
    have sub : Sub [("waiting", V.ref j), ("done", .ref i), ("token", tokV .lp), ("state", .tup [.ref i, .ref j])] [("waiting", V.ref j), ("done", .ref i), ("token", tokV .lp), ("state", .tup [.ref i, .ref j])] := .cons rfl (.cons rfl (.cons rfl (.cons rfl .nil)))
    obtain rfl : b = false := by cases b; rfl; exact absurd (hb.mp rfl) (fun h => by injection h with h; revert h; decide)
    simp only [Bool.false_eq_true, if_false]
    repeat walk_at "ev"
    refine Cmp_eq (Rd.data (tok_ok 8 .lp)) (Rd.data lp_ok) fun b hb => ?_
    obtain rfl : b = true := hb.mpr rfl
    repeat walk_at "ev"
    simp only [if_true]
    refine Exs_cons (Ex_expr (by rfl) (by rfl) ?_)
    refine Ev_meth (fun _ => rfl) (by decide) (by rfl) (by rfl) PySem.F.slot_list_append PySem.F.type_list_append ?_
    repeat walk_at "ev"
    refine ⟨⟨j, (W.map wtV).reverse, rfl, two_j hj⟩, ?_⟩
    repeat walk_at "ev"
    refine Call_append (vs := (W.map wtV).reverse) (two_j hj) (by simp; omega) ?_
    rw [show MO.list ((W.map wtV).reverse ++ [tokV .lp]) = cW (.lp :: W) from by rw [cW_cons]; rfl, two_set_j]
    repeat walk_at "ev"
    exact ⟨rfl, rfl⟩
theorem read_rp {s0 : List MO} {i j : Nat} {D : List Tok5} {W : List Wt} (hij : i ≠ j) (hi : i < s0.length) (hj : j < s0.length) (hs : Clo s0) (hc : can5 W .rp) (hz : D.length + W.length ≤ 10000) :
    Calls G 2 (.ref ard) [.tup [.ref i, .ref j], tokV .rp] (two5 s0 i j D W) fun v s => v = .tup [.ref i, .ref j] ∧ s = two5 s0 i j (step5 (D, W) .rp).1 (step5 (D, W) .rp).2 := by
  refine fn_calls H.read [("state", .tup [.ref i, .ref j]), ("token", tokV .rp)] (fun nm kV doc pm an cd ct w W xs hx => ?_) (by rfl) ?_
  · obtain ⟨x, y, rfl, r1, r2⟩ := two_of hx
    exact ⟨_, .cons r1 (.cons r2 .nil), rfl⟩
  · show Exs _ (_ :: _) _ _
    repeat walk_at "ev"
    refine Cmp_eq (Rd.data (tok_ok 8 .rp)) (Rd.data rp_ok) fun b hb => ?_
    repeat walk_at "ev"
    have sub : Sub [("waiting", V.ref j), ("done", .ref i), ("token", tokV .rp), ("state", .tup [.ref i, .ref j])] [("waiting", V.ref j), ("done", .ref i), ("token", tokV .rp), ("state", .tup [.ref i, .ref j])] := .cons rfl (.cons rfl (.cons rfl (.cons rfl .nil)))
    obtain rfl : b = true := hb.mpr rfl
    simp only [if_true]
    show Exs _ (_ :: _) _ _
    refine Exs_cons (Ex_while (fun n σ => ∃ (D₁ : List Tok5) (W₁ : List Wt) (l' : List (Str × V)), σ = ⟨l', two5 s0 i j D₁ W₁⟩ ∧ n = W₁.length ∧ popP D₁ W₁ = popP D W ∧ D₁.length + W₁.length ≤ 10000 ∧ Wt.lp ∈ W₁ ∧ Sub [("waiting", V.ref j), ("done", .ref i), ("token", .str ")"), ("state", .tup [.ref i, .ref j])] l') W.length ⟨[("waiting", V.ref j), ("done", .ref i), ("token", .str ")"), ("state", .tup [.ref i, .ref j])], .cons rfl (.cons rfl (.cons rfl (.cons rfl .nil))), D, W, _, rfl, rfl, rfl, hz, hc, .cons rfl (.cons rfl (.cons rfl (.cons rfl .nil)))⟩ ?_)
    rintro n σ' ⟨D₁, W₁, l', rfl, rfl, he, hz₁, hm, hsub⟩
    refine Tst_sub hsub ?_
    clear hsub
    obtain ⟨q, w, rfl⟩ : ∃ q w, W₁ = q :: w := by cases W₁; cases hm; exact ⟨_, _, rfl⟩
    rw [List.length_cons] at hz₁
    repeat walk_at "ev"
    refine Sub_list (vs := (w.map wtV).reverse ++ [wtV q]) (.inr ⟨j, rfl, by rw [← cW_cons]; exact two_j hj⟩) (by simp; omega) (at_last _ _) ?_
    repeat walk_at "ev"
    refine Cmp_ne (Rd.data (wt_ok 8 q)) (Rd.data lp_ok) fun b hb => ?_
    repeat walk_at "ev"
    cases q with
    | lp =>
      obtain rfl : b = false := by cases b; rfl; exact absurd rfl (hb.mp rfl)
      simp only [Bool.false_eq_true, if_false]
      refine Exs_nil (Then_next ?_)
      refine Exs_cons (Ex_expr (by rfl) (by rfl) ?_)
      refine Ev_meth0 (fun _ => rfl) (by rfl) PySem.F.slot_list_pop PySem.F.type_list_pop ?_
      repeat walk_at "ev"
      have hcell : (two5 s0 i j D₁ (.lp :: w))[j]? = some (.list ((w.map wtV).reverse ++ [wtV .lp])) := by rw [two_j hj, cW_cons]
      refine ⟨⟨j, _, rfl, hcell⟩, ?_⟩
      refine Call_pop hcell (by simp; omega) ?_
      rw [show MO.list (w.map wtV).reverse = cW w from rfl, two_set_j]
      repeat walk_at "ev"
      refine ⟨rfl, ?_⟩
      show two5 s0 i j D₁ w = two5 s0 i j (popP D W).1 (popP D W).2
      rw [← he]; rfl
    | op q =>
      obtain rfl : b = true := hb.mpr (op_lp q)
      simp only [if_true]
      show Exs _ (_ :: _) _ _
      refine Exs_cons (Ex_expr (by rfl) (by rfl) ?_)
      refine Ev_meth (fun _ => rfl) (by decide) (by rfl) (by rfl) PySem.F.slot_list_append PySem.F.type_list_append ?_
      repeat walk_at "ev"
      refine ⟨⟨i, D₁.map tokV, rfl, two_i hij hi⟩, ?_⟩
      refine Evs_cons (by rfl) ?_
      refine Ev_meth0 (fun _ => rfl) (by rfl) PySem.F.slot_list_pop PySem.F.type_list_pop ?_
      repeat walk_at "ev"
      have hcell : (two5 s0 i j D₁ (.op q :: w))[j]? = some (.list ((w.map wtV).reverse ++ [wtV (.op q)])) := by rw [two_j hj, cW_cons]
      refine ⟨⟨j, _, rfl, hcell⟩, ?_⟩
      refine Call_pop hcell (by simp; omega) ?_
      rw [show MO.list (w.map wtV).reverse = cW w from rfl, two_set_j]
      repeat walk_at "ev"
      refine Call_append (vs := D₁.map tokV) (two_i hij hi) (by simp; omega) ?_
      rw [show MO.list (D₁.map tokV ++ [wtV (.op q)]) = cD (D₁ ++ [.op q]) from by unfold cD; rw [List.map_append]; rfl, two_set_i hij]
      refine Then_next (Exs_nil ⟨[("waiting", V.ref j), ("done", .ref i), ("token", .str ")"), ("state", .tup [.ref i, .ref j])], .cons rfl (.cons rfl (.cons rfl (.cons rfl .nil))), w.length, by simp, D₁ ++ [.op q], w, _, rfl, rfl, he, by simp; omega, ?_, .cons rfl (.cons rfl (.cons rfl (.cons rfl .nil)))⟩)
      rcases List.mem_cons.mp hm with h | h
      · cases h
      · exact h
theorem read_op {s0 : List MO} {i j : Nat} {D : List Tok5} {W : List Wt} {o : Op} (hij : i ≠ j) (hi : i < s0.length) (hj : j < s0.length) (hs : Clo s0) (hc : can5 W (.op o)) (hz : D.length + W.length ≤ 10000) :
    Calls G 2 (.ref ard) [.tup [.ref i, .ref j], tokV (.op o)] (two5 s0 i j D W) fun v s => v = .tup [.ref i, .ref j] ∧ s = two5 s0 i j (step5 (D, W) (.op o)).1 (step5 (D, W) (.op o)).2 := by
  refine fn_calls H.read [("state", .tup [.ref i, .ref j]), ("token", tokV (.op o))] (fun nm kV doc pm an cd ct w W xs hx => ?_) (by rfl) ?_
  · obtain ⟨x, y, rfl, r1, r2⟩ := two_of hx
    exact ⟨_, .cons r1 (.cons r2 .nil), rfl⟩
  · show Exs _ (_ :: _) _ _
    repeat walk_at "ev"
    refine Cmp_eq (Rd.data (tok_ok 8 (.op o))) (Rd.data rp_ok) fun b hb => ?_
    repeat walk_at "ev"
    have sub : Sub [("waiting", V.ref j), ("done", .ref i), ("token", tokV (.op o)), ("state", .tup [.ref i, .ref j])] [("waiting", V.ref j), ("done", .ref i), ("token", tokV (.op o)), ("state", .tup [.ref i, .ref j])] := .cons rfl (.cons rfl (.cons rfl (.cons rfl .nil)))
    obtain rfl : b = false := by cases b; rfl; exact absurd (hb.mp rfl) (op_rp o)
    simp only [Bool.false_eq_true, if_false]
    repeat walk_at "ev"
    refine Cmp_eq (Rd.data (tok_ok 8 (.op o))) (Rd.data lp_ok) fun b hb => ?_
    obtain rfl : b = false := by cases b; rfl; exact absurd (hb.mp rfl) (op_lp o)
    repeat walk_at "ev"
    simp only [Bool.false_eq_true, if_false]
    repeat walk_at "ev"
    refine Ev_glob H.nrank (by rfl) ⟨_, rfl, H.krank, ?_⟩
    repeat walk_at "ev"
    refine CallV_fun ((rank_spec H _ (two_clo i j D W hs)).mono ?_) (Nat.le_refl _)
    rintro v s ⟨rfl, rfl⟩
    refine Cmp_in_dct (k := o.key) rank_nd ?_
    rw [c_any o.key o rfl]
    repeat walk_at "ev"
    simp only [if_true]
    show Exs _ (_ :: _) _ _
    repeat walk_at "ev"
    refine Ev_glob H.nrank (by rfl) ⟨_, rfl, H.krank, ?_⟩
    repeat walk_at "ev"
    refine CallV_fun ((rank_spec H _ (two_clo i j D W hs)).mono ?_) (Nat.le_refl _)
    rintro v s ⟨rfl, rfl⟩
    repeat walk_at "ev"
    refine Sub_dct rank_nd (rank_at o) ?_
    refine Then_next ?_
    dsimp only
    refine Exs_cons (Ex_while (fun n σ => ∃ (D₁ : List Tok5) (W₁ : List Wt) (l' : List (Str × V)), σ = ⟨l', two5 s0 i j D₁ W₁⟩ ∧ n = W₁.length ∧ popO o D₁ W₁ = popO o D W ∧ D₁.length + W₁.length ≤ 10000 ∧ Sub [("rank", .int o.rank), ("waiting", V.ref j), ("done", .ref i), ("token", .str o.sign), ("state", .tup [.ref i, .ref j])] l') W.length ⟨[("rank", .int o.rank), ("waiting", V.ref j), ("done", .ref i), ("token", .str o.sign), ("state", .tup [.ref i, .ref j])], .cons rfl (.cons rfl (.cons rfl (.cons rfl (.cons rfl .nil)))), D, W, _, rfl, rfl, rfl, hz, .cons rfl (.cons rfl (.cons rfl (.cons rfl (.cons rfl .nil))))⟩ ?_)
    rintro n σ' ⟨D₁, W₁, l', rfl, rfl, he, hz₁, hsub⟩
    refine Tst_sub hsub ?_
    clear hsub
    refine Tst_cut (P := fun b σ => (b = true → ∃ q w, W₁ = .op q :: w ∧ pops q o = true) ∧ (b = false → popO o D₁ W₁ = (D₁, W₁)) ∧ σ = ⟨[("rank", .int o.rank), ("waiting", V.ref j), ("done", .ref i), ("token", .str o.sign), ("state", .tup [.ref i, .ref j])], two5 s0 i j D₁ W₁⟩) ?_ ?_
    · repeat walk_at "ev"
      refine Ev_lst (by decide) ?_
      repeat walk_at "ev"
      refine Cmp_ne (.inr ⟨j, _, rfl, two_j hj, rfl, wts_ok W₁⟩) (Rd.data rfl) fun b hb => ?_
      repeat walk_at "ev"
      match W₁, he, hz₁, hb with
      | [], he, hz₁, hb =>
        obtain rfl : b = false := by cases b; rfl; exact absurd rfl (hb.mp rfl)
        simp only [Bool.false_eq_true, if_false]
        exact ⟨fun e => (nomatch e), fun _ => rfl, by first | trivial | rfl⟩
      | q :: w, he, hz₁, hb =>
        obtain rfl : b = true := hb.mpr fun h => by injection h with h; rw [List.map_cons, List.reverse_cons] at h; exact List.append_ne_nil_of_right_ne_nil _ (by simp) h
        rw [List.length_cons] at hz₁
        simp only [if_true]
        repeat walk_at "ev"
        refine Sub_list (vs := (w.map wtV).reverse ++ [wtV q]) (.inr ⟨j, rfl, by rw [← cW_cons]; exact two_j hj⟩) (by simp; omega) (at_last _ _) ?_
        repeat walk_at "ev"
        refine Cmp_ne (Rd.data (wt_ok 8 q)) (Rd.data lp_ok) fun b hb => ?_
        repeat walk_at "ev"
        cases q with
        | lp =>
          obtain rfl : b = false := by cases b; rfl; exact absurd rfl (hb.mp rfl)
          simp only [Bool.false_eq_true, if_false]
          exact ⟨fun e => (nomatch e), fun _ => rfl, by first | trivial | rfl⟩
        | op q =>
          obtain rfl : b = true := hb.mpr (op_lp q)
          simp only [if_true]
          repeat walk_at "ev"
          refine Ev_glob H.nrank (by rfl) ⟨_, rfl, H.krank, ?_⟩
          repeat walk_at "ev"
          refine CallV_fun ((rank_spec H _ (two_clo i j D₁ (.op q :: w) hs)).mono ?_) (Nat.le_refl _)
          rintro v s ⟨rfl, rfl⟩
          repeat walk_at "ev"
          refine Sub_list (vs := (w.map wtV).reverse ++ [wtV (.op q)]) (.inr ⟨j, rfl, by rw [← cW_cons]; exact two_j hj⟩) (by simp; omega) (at_last _ _) ?_
          refine Sub_dct rank_nd (rank_at q) ?_
          repeat walk_at "ev"
          refine ite_of (fun e1 => ?_) (fun e1 => ?_)
          · have hp : pops q o = true := by
              simp only [decide_eq_true_eq, gt_iff_lt, Int.ofNat_lt] at e1
              simp [pops, e1]
            simp only [if_true]
            refine All_nil ?_
            exact ⟨fun _ => ⟨q, w, rfl, hp⟩, fun e => (nomatch e), by first | trivial | rfl⟩
          · have e1 : ¬ q.rank > o.rank := by
              have := of_decide_eq_false e1
              omega
            repeat walk_at "ev"
            refine Ev_glob H.nrank (by rfl) ⟨_, rfl, H.krank, ?_⟩
            repeat walk_at "ev"
            refine CallV_fun ((rank_spec H _ (two_clo i j D₁ (.op q :: w) hs)).mono ?_) (Nat.le_refl _)
            rintro v s ⟨rfl, rfl⟩
            repeat walk_at "ev"
            refine Sub_list (vs := (w.map wtV).reverse ++ [wtV (.op q)]) (.inr ⟨j, rfl, by rw [← cW_cons]; exact two_j hj⟩) (by simp; omega) (at_last _ _) ?_
            refine Sub_dct rank_nd (rank_at q) ?_
            repeat walk_at "ev"
            refine ite_of (fun e2 => ?_) (fun e2 => ?_)
            · have e2 : q.rank = o.rank := by have := eq_of_beq e2; omega
              repeat walk_at "ev"
              refine Cmp_ne (Rd.data (sign_ok o)) (Rd.data caret_ok) fun b hb => ?_
              rw [sign_npow hb]
              repeat walk_at "ev"
              refine ite_of (fun e3 => ?_) (fun e3 => ?_)
              · have hp : pops q o = true := by simp [pops, e2, e3]
                refine All_nil ?_
                simp only [beq_self_eq_true, if_true]
                refine All_nil ?_
                exact ⟨fun _ => ⟨q, w, rfl, hp⟩, fun e => (nomatch e), by first | trivial | rfl⟩
              · have hp : pops q o = false := by simp [pops, e2, e3]
                simp only [Bool.false_eq_true, if_false]
                refine All_nil ?_
                refine ite_of (fun e => absurd e (by decide)) (fun _ => ?_)
                exact ⟨fun e => (nomatch e), fun _ => by rw [popO, hp]; rfl, by first | trivial | rfl⟩
            · have e2 : ¬ q.rank = o.rank := fun h => by rw [h, beq_self_eq_true] at e2; cases e2
              have hp : pops q o = false := by simp [pops, e1, e2]
              simp only [Bool.false_eq_true, if_false]
              refine All_nil ?_
              refine ite_of (fun e => absurd e (by decide)) (fun _ => ?_)
              exact ⟨fun e => (nomatch e), fun _ => by rw [popO, hp]; rfl, by first | trivial | rfl⟩
    · rintro b σ ⟨hb1, hb2, rfl⟩
      refine ite_of (fun e => ?_) (fun e => ?_)
      · obtain ⟨q, w, rfl, hp⟩ := hb1 e
        rw [List.length_cons] at hz₁
        show Exs _ (_ :: _) _ _
        refine Exs_cons (Ex_expr (by rfl) (by rfl) ?_)
        refine Ev_meth (fun _ => rfl) (by decide) (by rfl) (by rfl) PySem.F.slot_list_append PySem.F.type_list_append ?_
        repeat walk_at "ev"
        refine ⟨⟨i, D₁.map tokV, rfl, two_i hij hi⟩, ?_⟩
        refine Evs_cons (by rfl) ?_
        refine Ev_meth0 (fun _ => rfl) (by rfl) PySem.F.slot_list_pop PySem.F.type_list_pop ?_
        repeat walk_at "ev"
        have hcell : (two5 s0 i j D₁ (.op q :: w))[j]? = some (.list ((w.map wtV).reverse ++ [wtV (.op q)])) := by rw [two_j hj, cW_cons]
        refine ⟨⟨j, _, rfl, hcell⟩, ?_⟩
        refine Call_pop hcell (by simp; omega) ?_
        rw [show MO.list (w.map wtV).reverse = cW w from rfl, two_set_j]
        repeat walk_at "ev"
        refine Call_append (vs := D₁.map tokV) (two_i hij hi) (by simp; omega) ?_
        rw [show MO.list (D₁.map tokV ++ [wtV (.op q)]) = cD (D₁ ++ [.op q]) from by unfold cD; rw [List.map_append]; rfl, two_set_i hij]
        refine Then_next (Exs_nil ⟨[("rank", .int o.rank), ("waiting", V.ref j), ("done", .ref i), ("token", .str o.sign), ("state", .tup [.ref i, .ref j])], .cons rfl (.cons rfl (.cons rfl (.cons rfl (.cons rfl .nil)))), w.length, by simp, D₁ ++ [.op q], w, _, rfl, rfl, ?_, by simp; omega, .cons rfl (.cons rfl (.cons rfl (.cons rfl (.cons rfl .nil))))⟩)
        rw [← he, popO, if_pos hp]
      · have e3 := hb2 e
        refine Exs_nil (Then_next ?_)
        refine Exs_cons (Ex_expr (by rfl) (by rfl) ?_)
        refine Ev_meth (fun _ => rfl) (by decide) (by rfl) (by rfl) PySem.F.slot_list_append PySem.F.type_list_append ?_
        repeat walk_at "ev"
        refine ⟨⟨j, (W₁.map wtV).reverse, rfl, two_j hj⟩, ?_⟩
        repeat walk_at "ev"
        refine Call_append (vs := (W₁.map wtV).reverse) (two_j hj) (by simp; omega) ?_
        rw [show MO.list ((W₁.map wtV).reverse ++ [.str o.sign]) = cW (.op o :: W₁) from by rw [cW_cons]; rfl, two_set_j]
        repeat walk_at "ev"
        refine ⟨rfl, ?_⟩
        show two5 s0 i j D₁ (.op o :: W₁) = two5 s0 i j (popO o D W).1 (.op o :: (popO o D W).2)
        rw [← he, e3]
theorem read_spec {s0 : List MO} {i j : Nat} {D : List Tok5} {W : List Wt} {t : Tok5} (hij : i ≠ j) (hi : i < s0.length) (hj : j < s0.length) (hs : Clo s0) (hc : can5 W t) (hz : D.length + W.length ≤ 10000) :
    Calls G 2 (.ref ard) [.tup [.ref i, .ref j], tokV t] (two5 s0 i j D W) fun v s => v = .tup [.ref i, .ref j] ∧ s = two5 s0 i j (step5 (D, W) t).1 (step5 (D, W) t).2 := by
  cases t with
  | num n => exact read_num H hij hi hj hs hc hz
  | op o => exact read_op H hij hi hj hs hc hz
  | lp => exact read_lp H hij hi hj hs hc hz
  | rp => exact read_rp H hij hi hj hs hc hz
end
def lpc : List Wt → Nat
  | [] => 0
  | .lp :: w => lpc w + 1
  | .op _ :: w => lpc w
theorem lpc_popO (o : Op) : ∀ (W : List Wt) (D : List Tok5), lpc (popO o D W).2 = lpc W
  | [], D => rfl
  | .lp :: W, D => rfl
  | .op q :: W, D => by
    rw [popO]
    split
    · rw [lpc_popO o W]; rfl
    · rfl
theorem lpc_popP : ∀ (W : List Wt) (D : List Tok5) (n : Nat), lpc W = n + 1 → Wt.lp ∈ W ∧ lpc (popP D W).2 = n
  | [], D, n, h => nomatch h
  | .lp :: W, D, n, h => ⟨.head _, by injection h⟩
  | .op q :: W, D, n, h => by
    have := lpc_popP W (D ++ [.op q]) n h
    exact ⟨.tail _ this.1, this.2⟩
def ok5 : List Tok5 × List Wt → List Tok5 → Prop
  | _, [] => True
  | s, t :: ts => can5 s.2 t ∧ ok5 (step5 s t) ts
theorem ok_of_bal : ∀ (ts : List Tok5) (s : List Tok5 × List Wt), bal ts (lpc s.2) → ok5 s ts
  | [], _, _ => trivial
  | .num i :: ts, s, h => ⟨trivial, ok_of_bal ts _ h⟩
  | .op o :: ts, s, h => ⟨trivial, ok_of_bal ts _ (by show bal ts (lpc (popO o s.1 s.2).2); rw [lpc_popO]; exact h)⟩
  | .lp :: ts, s, h => ⟨trivial, ok_of_bal ts _ h⟩
  | .rp :: ts, s, h => by
    cases hn : lpc s.2 with
    | zero => rw [hn] at h; exact absurd h id
    | succ n =>
      rw [hn] at h
      have := lpc_popP s.2 s.1 n hn
      exact ⟨this.1, ok_of_bal ts _ (by show bal ts (lpc (popP s.1 s.2).2); rw [this.2]; exact h)⟩
theorem ok_at : ∀ (ts : List Tok5) (s : List Tok5 × List Wt) (q : Nat) (t : Tok5), ok5 s ts → ts[q]? = some t → can5 (run5 s (ts.take q)).2 t
  | t :: ts, s, 0, u, h, e => by cases e; exact h.1
  | t :: ts, s, q + 1, u, h, e => ok_at ts (step5 s t) q u h.2 e
theorem run_succ {ts : List Tok5} {s : List Tok5 × List Wt} {q : Nat} {t : Tok5} (h : ts[q]? = some t) : run5 s (ts.take (q + 1)) = step5 (run5 s (ts.take q)) t := by
  rw [List.take_add_one, h, run5_append]; rfl
theorem run_len : ∀ (ts : List Tok5) (s : List Tok5 × List Wt), (run5 s ts).1.length + (run5 s ts).2.length ≤ s.1.length + s.2.length + ts.length
  | [], s => Nat.le_refl _
  | t :: ts, s => by
    have := run_len ts (step5 s t)
    have := step_len s t
    show (run5 (step5 s t) ts).1.length + (run5 (step5 s t) ts).2.length ≤ _
    rw [List.length_cons]
    omega
theorem two_swap {base : List MO} {x y : MO} {i j : Nat} {D : List Tok5} {W : List Wt} (hi : i < base.length) (hj : j < base.length) : (two5 (base ++ [x]) i j D W).set base.length y = two5 (base ++ [y]) i j D W := by
  unfold two5
  rw [List.set_comm _ _ (by omega : j ≠ base.length), List.set_comm _ _ (by omega : i ≠ base.length)]
  simp
theorem two_nil {s : List MO} {i j : Nat} (hi : s[i]? = some (.list [])) (hj : s[j]? = some (.list [])) : two5 s i j [] [] = s := by
  obtain ⟨hi1, hi2⟩ := List.getElem?_eq_some_iff.mp hi
  obtain ⟨hj1, hj2⟩ := List.getElem?_eq_some_iff.mp hj
  unfold two5
  have e1 : s.set i (cD []) = s := by rw [show cD [] = s[i] from hi2.symm]; exact List.set_getElem_self _
  rw [e1, show cW [] = s[j] from hj2.symm]
  exact List.set_getElem_self _
theorem two_out {base : List MO} {x : MO} {i j : Nat} {D : List Tok5} {W : List Wt} (hi : i < base.length) (hj : j < base.length) : (two5 (base ++ [x]) i j D W)[base.length]? = some x := by
  unfold two5
  rw [List.getElem?_set_ne (by omega), List.getElem?_set_ne (by omega), List.getElem?_append_right (Nat.le_refl _), Nat.sub_self]; rfl
theorem los_append (k : Nat) (a b : List V) : los k (a ++ b) = (los k a && los k b) := by
  induction a with
  | nil => rfl
  | cons x a ih => show (x.lo k && los k (a ++ b)) = (x.lo k && los k a && los k b); rw [ih, Bool.and_assoc]
theorem los_toks (k : Nat) (ts : List Tok5) : los k (ts.map tokV) = true := cD_lo k ts
mutual
theorem V.lo_mono {k n : Nat} (h : k ≤ n) : ∀ v : V, v.lo k = true → v.lo n = true
  | .none, _ => rfl
  | .bool _, _ => rfl
  | .int _, _ => rfl
  | .str _, _ => rfl
  | .rng _ _ _, _ => rfl
  | .con _, _ => rfl
  | .ref i, e => decide_eq_true (Nat.lt_of_lt_of_le (of_decide_eq_true e) h)
  | .tup vs, e => los_mono h vs e
  | .lst vs, e => los_mono h vs e
  | .dct ds, e => dlos_mono h ds e
theorem los_mono {k n : Nat} (h : k ≤ n) : ∀ vs : List V, los k vs = true → los n vs = true
  | [], _ => rfl
  | v :: vs, e => by
    have e' : v.lo k = true ∧ los k vs = true := by simpa [los] using e
    simp [los, V.lo_mono h v e'.1, los_mono h vs e'.2]
theorem dlos_mono {k n : Nat} (h : k ≤ n) : ∀ ds : List (V × V), dlos k ds = true → dlos n ds = true
  | [], _ => rfl
  | (_, v) :: vs, e => by
    have e' : v.lo k = true ∧ dlos k vs = true := by simpa [dlos] using e
    simp [dlos, V.lo_mono h v e'.1, dlos_mono h vs e'.2]
end
theorem MO.lo_mono {k n : Nat} (h : k ≤ n) {m : MO} (e : m.lo k = true) : m.lo n = true := by
  cases m with
  | list vs => exact los_mono h vs e
  | dict ds => exact dlos_mono h ds e
  | iter v n => exact V.lo_mono h v e
  | junk => rfl
theorem Clo.add {s r : List MO} (h : Clo s) (hr : ∀ m ∈ r, m.lo (s.length + r.length) = true) : Clo (s ++ r) := fun o ho => by
  rw [List.length_append]
  rcases List.mem_append.mp ho with h' | h'
  · exact MO.lo_mono (Nat.le_add_right _ _) (h o h')
  · exact hr o h'
section
variable {G : Gl} {ar am ak as_ al at_ asd aw af aa ard ab ap : Addr} (H : Gs5 G ar am ak as_ al at_ asd aw af aa ard ab ap)
include H
theorem read_fold {base : List MO} {i j : Nat} {hd : List V} {ts : List Tok5} (hij : i ≠ j) (hi : i < base.length) (hj : j < base.length) (hs : Clo base) (hh : los base.length hd = true) (hb : bal ts 0) (hz : ts.length ≤ 10000) :
    Fold G 2 (.ref ard) (.lst (hd ++ ts.map tokV)) base.length (fun k v s => ∃ q, k = hd.length + q ∧ q ≤ ts.length ∧ v = .tup [.ref i, .ref j] ∧ s = two5 (base ++ [.iter (.lst (hd ++ ts.map tokV)) k]) i j (run5 ([], []) (ts.take q)).1 (run5 ([], []) (ts.take q)).2)
      (fun k _ => hd.length + ts.length - k) (fun v s => v = .tup [.ref i, .ref j] ∧ s = two5 (base ++ [.junk]) i j (run5 ([], []) ts).1 (run5 ([], []) ts).2) := by
  rintro k v s ⟨q, rfl, hq, rfl, rfl⟩
  refine ⟨two_out hi hj, _, .inl rfl, fun el hel => ?_, fun hl => ?_⟩
  · rw [List.getElem?_append_right (by omega), show hd.length + q - hd.length = q by omega, List.getElem?_map] at hel
    obtain ⟨t, ht, rfl⟩ : ∃ t, ts[q]? = some t ∧ tokV t = el := by
      cases ht : ts[q]? with
      | none => rw [ht] at hel; cases hel
      | some t => rw [ht] at hel; cases hel; exact ⟨t, rfl, rfl⟩
    have hqb := (List.getElem?_eq_some_iff.mp ht).1
    rw [two_swap hi hj]
    have hok := ok_at ts ([], []) q t (ok_of_bal ts ([], []) hb) ht
    have hln := run_len (ts.take q) ([], [])
    rw [List.length_take] at hln
    have hseq : (MO.iter (.lst (hd ++ ts.map tokV)) (hd.length + q + 1)).lo (base.length + 1) = true := by
      show los _ _ = true
      rw [los_append, los_toks, Bool.and_true]
      exact los_mono (Nat.le_succ _) hd hh
    refine (read_spec H (D := (run5 ([], []) (ts.take q)).1) (W := (run5 ([], []) (ts.take q)).2) (s0 := base ++ [.iter (.lst (hd ++ ts.map tokV)) (hd.length + q + 1)]) hij (by rw [List.length_append]; omega) (by rw [List.length_append]; omega) (hs.add fun m hm => by cases hm with | head => exact hseq | tail _ h => cases h) hok (by simp only [List.length_nil, Nat.zero_add] at hln; omega)).mono ?_
    intro v s h
    refine ⟨⟨q + 1, by omega, by omega, h.1, ?_⟩, by dsimp only; omega⟩
    rw [h.2, run_succ ht]
  · have : q = ts.length := by rw [List.length_append, List.length_map] at hl; omega
    subst this
    rw [two_swap hi hj, List.take_length]
    exact ⟨rfl, rfl⟩
/-- what the reading gives out, joined -/
def out5 (ts : List Tok5) : List V := (run5 ([], []) ts).1.map tokV ++ (run5 ([], []) ts).2.map wtV
omit H in
theorem out_flat (b : B) : out5 b.flat = (parse5 b.flat).map tokV := by
  unfold out5
  rw [← norm_flat, parse_flat (norm_legal b), run_flat _ (norm_legal b) [] [] fun o _ q w' e => by cases e]
  rw [← dn_rem]
  simp [List.map_append, Function.comp_def, tokV, wtV]
omit H in
theorem clo_base {sto : List MO} (hs : Clo sto) : Clo (sto ++ [MO.list []] ++ [MO.list []]) := by
  rw [List.append_assoc]
  refine hs.add fun m hm => ?_
  rcases List.mem_append.mp hm with h | h <;> (rw [List.mem_singleton.mp h]; rfl)
theorem red_read {sto : List MO} (hs : Clo sto) {ts : List Tok5} (hb : bal ts 0) (hz : ts.length ≤ 10000) :
    Calls G 3 (.ref ar) [.con (.ref ard), .lst (ts.map tokV), .tup [.ref sto.length, .ref (sto.length + 1)]] (sto ++ [MO.list []] ++ [MO.list []]) fun v s => v = .tup [.ref sto.length, .ref (sto.length + 1)] ∧ s = two5 (sto ++ [MO.list []] ++ [MO.list []] ++ [MO.junk]) sto.length (sto.length + 1) (run5 ([], []) ts).1 (run5 ([], []) ts).2 := by
  have hl : (sto ++ [MO.list []] ++ [MO.list []]).length = sto.length + 2 := by simp
  refine red_bind3 H.red (reduce_list (vs := ts.map tokV) H.red.miss H.kread (Nat.le_refl 2) (.inl rfl) (read_fold H (base := sto ++ [MO.list []] ++ [MO.list []]) (hd := []) (ts := ts) (i := sto.length) (j := sto.length + 1) (by omega) (by omega) (by omega) (clo_base hs) rfl hb hz) (.inl ⟨rfl, 0, rfl, Nat.zero_le _, rfl, ?_⟩))
  rw [List.take_zero]
  exact (two_nil (by simp) (by simp)).symm
theorem red_read2 {sto : List MO} (hs : Clo sto) {ts : List Tok5} (hb : bal ts 0) (hz : ts.length ≤ 10000) :
    Calls G 3 (.ref ar) [.con (.ref ard), .lst (.tup [.ref sto.length, .ref (sto.length + 1)] :: ts.map tokV)] (sto ++ [MO.list []] ++ [MO.list []]) fun v s => v = .tup [.ref sto.length, .ref (sto.length + 1)] ∧ s = two5 (sto ++ [MO.list []] ++ [MO.list []] ++ [MO.junk]) sto.length (sto.length + 1) (run5 ([], []) ts).1 (run5 ([], []) ts).2 := by
  have hl : (sto ++ [MO.list []] ++ [MO.list []]).length = sto.length + 2 := by simp
  refine red_bind2 H.red (reduce_list (vs := .tup [.ref sto.length, .ref (sto.length + 1)] :: ts.map tokV) H.red.miss H.kread (Nat.le_refl 2) (.inl rfl) (read_fold H (base := sto ++ [MO.list []] ++ [MO.list []]) (hd := [.tup [.ref sto.length, .ref (sto.length + 1)]]) (ts := ts) (i := sto.length) (j := sto.length + 1) (by omega) (by omega) (by omega) (clo_base hs) ?_ hb hz) (.inr ⟨rfl, _, rfl, 0, rfl, Nat.zero_le _, rfl, ?_⟩))
  · rw [hl]; simp [los, V.lo]
  · rw [List.take_zero]
    exact (two_nil (by simp) (by simp)).symm
theorem parse_spec {sto : List MO} (hs : Clo sto) {ts : List Tok5} (hb : bal ts 0) (hz : ts.length ≤ 10000) : Calls G 4 (.ref ap) [.lst (ts.map tokV)] sto fun v s => v = .lst (out5 ts) ∧ s = sto := by
  have hln := run_len ts ([], [])
  simp only [List.length_nil, Nat.zero_add] at hln
  refine Calls_trim (Q' := fun v s => v = .lst (out5 ts) ∧ ∃ x, s = two5 (sto ++ x) sto.length (sto.length + 1) (run5 ([], []) ts).1 (run5 ([], []) ts).2) ?_ fun v s ⟨h1, x, h2⟩ => ⟨v, sto, ?_, h1, rfl⟩
  · refine fn_calls H.parse [("tokens", .lst (ts.map tokV))] (fun nm kV doc pm an cd ct w W xs hx => ?_) (by rfl) ?_
    · obtain ⟨x, rfl, r⟩ := one_of hx
      exact ⟨_, .cons r .nil, rfl⟩
    · show Exs _ (_ :: _) _ _
      repeat walk_at "ev"
      refine Ev_glob H.nred (by rfl) ⟨_, rfl, H.kred, ?_⟩
      repeat walk_at "ev"
      refine Ev_glob H.nread (by rfl) ?_
      repeat walk_at "ev"
      refine Ev_boot H.nlist c_list (by rfl) ⟨_, rfl, Kp_type, ?_⟩
      repeat walk_at "ev"
      refine Call_list (.inl rfl) (by simp; omega) ?_
      repeat walk_at "ev"
      refine Ev_lstC (by decide) ?_
      repeat walk_at "ev"
      refine Ev_lstC (by decide) ?_
      repeat walk_at "ev"
      have q := red_read H hs hb hz
      dsimp only
      rw [show (sto ++ [MO.list []]).length = sto.length + 1 by simp]
      refine CallV_fun (q.mono ?_) (Nat.le_refl _)
      rintro v s ⟨rfl, rfl⟩
      have hl : (sto ++ [MO.list []] ++ [MO.list []] ++ [MO.junk]).length = sto.length + 3 := by simp
      have h1 := two_i (s := sto ++ [MO.list []] ++ [MO.list []] ++ [MO.junk]) (i := sto.length) (j := sto.length + 1) (D := (run5 ([], []) ts).1) (W := (run5 ([], []) ts).2) (by omega) (by omega)
      have h2 := two_j (s := sto ++ [MO.list []] ++ [MO.list []] ++ [MO.junk]) (i := sto.length) (j := sto.length + 1) (D := (run5 ([], []) ts).1) (W := (run5 ([], []) ts).2) (by omega)
      refine Then_next ?_
      dsimp only
      show Exs _ (_ :: _) _ _
      repeat walk_at "ev"
      refine Sub_tup (show 2 < 2 ^ 60 by decide) (v := .ref sto.length) (by rfl) ?_
      repeat walk_at "ev"
      refine Sub_tup (show 2 < 2 ^ 60 by decide) (v := .ref (sto.length + 1)) (by rfl) ?_
      repeat walk_at "ev"
      refine ⟨_, rfl, ?_⟩
      refine ⟨fun e => (nomatch e), _, .inr ⟨_, rfl, h2⟩, by simp; omega, ?_⟩
      rw [slc_rev]
      refine Bin_cat (.inr ⟨_, rfl, h1⟩) (.inl rfl) (by simp [sizeLine_eq]; omega) ?_
      repeat walk_at "ev"
      rw [List.reverse_reverse]
      exact ⟨rfl, [MO.list []] ++ [MO.list []] ++ [MO.junk], by simp⟩
  · subst h1 h2
    refine trim_all ?_ ?_ ?_ fun o ho => MO.res (hs o ho)
    · unfold two5
      rw [List.take_set_of_le (by omega), List.take_set_of_le (by omega), List.take_left' rfl]
    · rw [two_len, List.length_append]; omega
    · show los _ _ = true
      unfold out5
      rw [los_append, los_toks, Bool.true_and, los_all]
      intro v hv
      obtain ⟨t, -, rfl⟩ := List.mem_map.mp hv
      exact wt_lo _ t
end
theorem reduce_pureC {G : Gl} {a m : Addr} {n : Nat} {f : Value} {vs : List V} {acc : Nat → V} {sto : List MO} (R : RFn G a m) (hk : Kp G f) (h0 : NotCon (acc 0) = true) (hp : (acc vs.length).lo sto.length = true) (hs : Clo sto) (hv : los sto.length vs = true)
    (hstep : ∀ k el s, Clo s → vs[k]? = some el → Calls G n f [acc k, el] s fun r s' => r = acc (k + 1) ∧ s' = s) : Calls G (n + 1) (.ref a) [.con f, .lst vs, acc 0] sto fun r s => r = acc vs.length ∧ s = sto := by
  refine Calls_trim (Q' := fun r s => r = acc vs.length ∧ s = sto ++ [.junk]) (red_bind3 R (reduce_list (vs := vs) R.miss hk (Nat.le_refl n) (.inl rfl) (Q := fun r s => r = acc vs.length ∧ s = sto ++ [.junk])
    (J := fun k v s => v = acc k ∧ k ≤ vs.length ∧ s = sto ++ [.iter (.lst vs) k]) (meas := fun k _ => vs.length - k) ?_ (.inl ⟨h0, rfl, Nat.zero_le _, rfl⟩))) ?_
  · rintro k v s ⟨rfl, hkl, rfl⟩
    refine ⟨by simp, vs, .inl rfl, fun el hel => ?_, fun hl => ⟨by rw [show k = vs.length by omega], by simp⟩⟩
    have hb := (List.getElem?_eq_some_iff.mp hel).1
    have hc : Clo ((sto ++ [MO.iter (.lst vs) k]).set sto.length (.iter (.lst vs) (k + 1))) := by
      rw [show (sto ++ [MO.iter (.lst vs) k]).set sto.length (.iter (.lst vs) (k + 1)) = sto ++ [.iter (.lst vs) (k + 1)] by simp]
      exact hs.add fun m hm => by cases hm with | head => exact los_mono (Nat.le_add_right _ _) vs hv | tail _ h => cases h
    refine (hstep k el _ hc hel).mono fun r s' ⟨h1, h2⟩ => ⟨⟨h1, hb, by rw [h2]; simp⟩, by dsimp only; omega⟩
  · rintro v s ⟨rfl, rfl⟩
    exact ⟨_, sto, trim_all (by simp) (by simp) hp fun o ho => MO.res (hs o ho), rfl, rfl⟩
theorem reduce_pure2C {G : Gl} {a m : Addr} {n : Nat} {f : Value} {vs : List V} {acc : Nat → V} {sto : List MO} (R : RFn G a m) (hk : Kp G f) (h0 : vs[0]? = some (acc 1)) (hp : (acc vs.length).lo sto.length = true) (hs : Clo sto) (hv : los sto.length vs = true)
    (hstep : ∀ k el s, 0 < k → Clo s → vs[k]? = some el → Calls G n f [acc k, el] s fun r s' => r = acc (k + 1) ∧ s' = s) : Calls G (n + 1) (.ref a) [.con f, .lst vs] sto fun r s => r = acc vs.length ∧ s = sto := by
  have h1 := (List.getElem?_eq_some_iff.mp h0).1
  refine Calls_trim (Q' := fun r s => r = acc vs.length ∧ s = sto ++ [.junk]) (red_bind2 R (reduce_list (vs := vs) R.miss hk (Nat.le_refl n) (.inl rfl) (Q := fun r s => r = acc vs.length ∧ s = sto ++ [.junk])
    (J := fun k v s => v = acc k ∧ 0 < k ∧ k ≤ vs.length ∧ s = sto ++ [.iter (.lst vs) k]) (meas := fun k _ => vs.length - k) ?_ (.inr ⟨rfl, _, h0, rfl, Nat.zero_lt_one, h1, rfl⟩))) ?_
  · rintro k v s ⟨rfl, hk0, hkl, rfl⟩
    refine ⟨by simp, vs, .inl rfl, fun el hel => ?_, fun hl => ⟨by rw [show k = vs.length by omega], by simp⟩⟩
    have hb := (List.getElem?_eq_some_iff.mp hel).1
    have hc : Clo ((sto ++ [MO.iter (.lst vs) k]).set sto.length (.iter (.lst vs) (k + 1))) := by
      rw [show (sto ++ [MO.iter (.lst vs) k]).set sto.length (.iter (.lst vs) (k + 1)) = sto ++ [.iter (.lst vs) (k + 1)] by simp]
      exact hs.add fun m hm => by cases hm with | head => exact los_mono (Nat.le_add_right _ _) vs hv | tail _ h => cases h
    refine (hstep k el _ hk0 hc hel).mono fun r s' ⟨h1, h2⟩ => ⟨⟨h1, by omega, hb, by rw [h2]; simp⟩, by dsimp only; omega⟩
  · rintro v s ⟨rfl, rfl⟩
    exact ⟨_, sto, trim_all (by simp) (by simp) hp fun o ho => MO.res (hs o ho), rfl, rfl⟩
def canB (s : List T) : Tok5 → Prop
  | .num _ => True
  | .op _ => ∃ r l s', s = r :: l :: s'
  | _ => False
def okB : List T → List Tok5 → Prop
  | _, [] => True
  | s, t :: ts => canB s t ∧ okB (bstep s t) ts
theorem ok_after : ∀ (t : T) (s : List T) (post : List Tok5), okB (t :: s) post → okB s (t.after ++ post)
  | .leaf i, s, post, h => ⟨trivial, by
    have : bstep s (.num i) = .leaf i :: s := by cases s with
      | nil => rfl
      | cons a s => cases s <;> rfl
    rw [this]; exact h⟩
  | .node o l r, s, post, h => by
    rw [T.after, List.append_assoc, List.append_assoc]
    exact ok_after l s _ (ok_after r _ _ ⟨⟨r, l, s, rfl⟩, h⟩)
theorem okB_at : ∀ (ts : List Tok5) (s : List T) (q : Nat) (t : Tok5), okB s ts → ts[q]? = some t → canB ((ts.take q).foldl bstep s) t
  | t :: ts, s, 0, u, h, e => by cases e; exact h.1
  | t :: ts, s, q + 1, u, h, e => okB_at ts (bstep s t) q u h.2 e
theorem b_succ {ts : List Tok5} {s : List T} {q : Nat} {t : Tok5} (h : ts[q]? = some t) : (ts.take (q + 1)).foldl bstep s = bstep ((ts.take q).foldl bstep s) t := by
  rw [List.take_add_one, h, List.foldl_append]; rfl
theorem bstep_len (s : List T) (t : Tok5) : (bstep s t).length ≤ s.length + 1 := by
  unfold bstep
  split <;> simp <;> omega
theorem b_len : ∀ (ts : List Tok5) (s : List T), (ts.foldl bstep s).length ≤ s.length + ts.length
  | [], s => Nat.le_refl _
  | t :: ts, s => by
    have := b_len ts (bstep s t)
    have := bstep_len s t
    rw [List.foldl_cons, List.length_cons]
    omega
def sV (s : List T) : V := .lst (s.reverse.map tV)
theorem tV_lo (k : Nat) : ∀ t : T, (tV t).lo k = true
  | .leaf _ => rfl
  | .node o l r => by simp only [tV, V.lo, los, tV_lo k l, tV_lo k r, Bool.and_self]
theorem sV_lo (k : Nat) (s : List T) : (sV s).lo k = true := (los_all k _).mpr fun v hv => by
  obtain ⟨t, -, rfl⟩ := List.mem_map.mp hv; exact tV_lo k t
section
variable {G : Gl} {ar am ak as_ al at_ asd aw af aa ard ab ap : Addr} (H : Gs5 G ar am ak as_ al at_ asd aw af aa ard ab ap)
include H
theorem build_num {s : List T} {i : Int} {sto : List MO} (hs : Clo sto) (hz : s.length ≤ 10000) : Calls G 2 (.ref ab) [sV s, .int i] sto fun v s' => v = sV (.leaf i :: s) ∧ s' = sto := by
  refine fn_calls H.build [("stack", sV s), ("token", .int i)] (fun nm kV doc pm an cd ct w W xs hx => ?_) (by rfl) ?_
  · obtain ⟨x, y, rfl, r1, r2⟩ := two_of hx
    exact ⟨_, .cons r1 (.cons r2 .nil), rfl⟩
  · show Exs _ (_ :: _) _ _
    repeat walk_at "ev"
    refine Ev_glob H.nrank (by rfl) ⟨_, rfl, H.krank, ?_⟩
    repeat walk_at "ev"
    refine CallV_fun ((rank_spec H _ hs).mono ?_) (Nat.le_refl _)
    rintro v s' ⟨rfl, rfl⟩
    refine Cmp_in_dct (k := .inl i) rank_nd ?_
    rw [num_any]
    repeat walk_at "ev"
    simp only [Bool.false_eq_true, if_false]
    repeat walk_at "ev"
    refine Ev_lst (by decide) ?_
    repeat walk_at "ev"
    refine Bin_cat (.inl rfl) (.inl rfl) (by simp [sizeLine_eq]; omega) ?_
    repeat walk_at "ev"
    refine ⟨?_, rfl⟩
    show V.lst _ = V.lst _
    rw [List.reverse_cons, List.map_append]; rfl
theorem build_op {s : List T} {l r : T} {o : Op} {sto : List MO} (hs : Clo sto) (hz : s.length ≤ 10000) : Calls G 2 (.ref ab) [sV (r :: l :: s), .str o.sign] sto fun v s' => v = sV (.node o l r :: s) ∧ s' = sto := by
  have e : (r :: l :: s).reverse = s.reverse ++ [l, r] := by simp
  refine fn_calls H.build [("stack", sV (r :: l :: s)), ("token", .str o.sign)] (fun nm kV doc pm an cd ct w W xs hx => ?_) (by rfl) ?_
  · obtain ⟨x, y, rfl, r1, r2⟩ := two_of hx
    exact ⟨_, .cons r1 (.cons r2 .nil), rfl⟩
  · unfold sV
    rw [e]
    show Exs _ (_ :: _) _ _
    repeat walk_at "ev"
    refine Ev_glob H.nrank (by rfl) ⟨_, rfl, H.krank, ?_⟩
    repeat walk_at "ev"
    refine CallV_fun ((rank_spec H _ hs).mono ?_) (Nat.le_refl _)
    rintro v s' ⟨rfl, rfl⟩
    refine Cmp_in_dct (k := o.key) rank_nd ?_
    rw [c_any o.key o rfl]
    repeat walk_at "ev"
    simp only [if_true]
    show Exs _ (_ :: _) _ _
    repeat walk_at "ev"
    refine ⟨_, rfl, ?_⟩
    repeat walk_at "ev"
    refine ⟨fun e => (nomatch e), _, .inl rfl, by simp; omega, ?_⟩
    rw [slc_m2]
    refine Ev_lst (by decide) ?_
    repeat walk_at "ev"
    refine Sub_list (vs := (s.reverse ++ [l, r]).map tV) (.inl rfl) (by simp; omega) (at_m2 tV s.reverse l r) ?_
    repeat walk_at "ev"
    refine Sub_list (vs := (s.reverse ++ [l, r]).map tV) (.inl rfl) (by simp; omega) (at_m1 tV s.reverse l r) ?_
    repeat walk_at "ev"
    refine Bin_cat (.inl rfl) (.inl rfl) (by simp [sizeLine_eq]; omega) ?_
    repeat walk_at "ev"
    refine ⟨?_, rfl⟩
    show V.lst _ = V.lst _
    rw [List.reverse_cons, List.map_append]; rfl
theorem build_spec {s : List T} {t : Tok5} {sto : List MO} (hs : Clo sto) (hc : canB s t) (hz : s.length ≤ 10000) : Calls G 2 (.ref ab) [sV s, tokV t] sto fun v s' => v = sV (bstep s t) ∧ s' = sto := by
  cases t with
  | num i =>
    have : bstep s (.num i) = .leaf i :: s := by cases s with
      | nil => rfl
      | cons a s => cases s <;> rfl
    rw [this]; exact build_num H hs hz
  | op o =>
    obtain ⟨r, l, s', rfl⟩ := hc
    exact build_op H hs (by simp at hz; omega)
  | lp => exact hc.elim
  | rp => exact hc.elim
theorem build_fold {t : T} {sto : List MO} (hs : Clo sto) (hz : t.after.length ≤ 10000) : Calls G 3 (.ref ar) [.con (.ref ab), .lst (t.after.map tokV), .lst []] sto fun v s' => v = .lst [tV t] ∧ s' = sto := by
  have h := reduce_pureC (n := 2) (vs := t.after.map tokV) (acc := fun k => sV ((t.after.take k).foldl bstep [])) (sto := sto) H.red H.kbuild rfl (sV_lo _ _) hs (los_toks _ _) fun k el s hc hel => by
    rw [List.getElem?_map] at hel
    obtain ⟨tk, ht, rfl⟩ : ∃ tk, t.after[k]? = some tk ∧ tokV tk = el := by
      cases ht : t.after[k]? with
      | none => rw [ht] at hel; cases hel
      | some t => rw [ht] at hel; cases hel; exact ⟨t, rfl, rfl⟩
    have hl := b_len (t.after.take k) []
    rw [List.length_take] at hl
    rw [b_succ ht]
    have hok := ok_after t [] [] trivial
    rw [List.append_nil] at hok
    exact build_spec H hc (okB_at _ [] k tk hok ht) (by simp only [List.length_nil] at hl; omega)
  refine h.mono fun v s' h => ⟨?_, h.2⟩
  rw [h.1, List.length_map, List.take_length, build_after]
  rfl
theorem build_fold2 {t : T} {sto : List MO} (hs : Clo sto) (hz : t.after.length ≤ 10000) : Calls G 3 (.ref ar) [.con (.ref ab), .lst (.lst [] :: t.after.map tokV)] sto fun v s' => v = .lst [tV t] ∧ s' = sto := by
  have h := reduce_pure2C (n := 2) (vs := .lst [] :: t.after.map tokV) (acc := fun k => sV ((t.after.take (k - 1)).foldl bstep [])) (sto := sto) H.red H.kbuild rfl (sV_lo _ _) hs (by show los _ _ = true; exact los_toks _ _) fun k el s h0 hc hel => by
    obtain ⟨k, rfl⟩ : ∃ j, k = j + 1 := ⟨k - 1, by omega⟩
    rw [List.getElem?_cons_succ, List.getElem?_map] at hel
    obtain ⟨tk, ht, rfl⟩ : ∃ tk, t.after[k]? = some tk ∧ tokV tk = el := by
      cases ht : t.after[k]? with
      | none => rw [ht] at hel; cases hel
      | some t => rw [ht] at hel; cases hel; exact ⟨t, rfl, rfl⟩
    have hl := b_len (t.after.take k) []
    rw [List.length_take] at hl
    rw [show k + 1 + 1 - 1 = k + 1 by omega, show k + 1 - 1 = k by omega, b_succ ht]
    have hok := ok_after t [] [] trivial
    rw [List.append_nil] at hok
    exact build_spec H hc (okB_at _ [] k tk hok ht) (by simp only [List.length_nil] at hl; omega)
  refine h.mono fun v s' h => ⟨?_, h.2⟩
  rw [h.1, List.length_cons, List.length_map, show t.after.length + 1 - 1 = t.after.length by omega, List.take_length, build_after]
  rfl
end
theorem v_is5 (a : Int) (k : Nat) (n : Nat) {v : V} (hv : ((List.range n).map fun (k : Nat) => V.int (a + (k : Int) * 1))[k]? = some v) : k < n ∧ v = .int (a + k) := by
  have hk : k < n := by
    have := (List.getElem?_eq_some_iff.mp hv).1
    simpa using this
  refine ⟨hk, ?_⟩
  rw [List.getElem?_map, List.getElem?_range hk] at hv
  simp only [Option.map_some, Option.some.injEq] at hv
  rw [← hv, Int.mul_one]
theorem tok_inj {a b : Tok5} (h : tokV a = tokV b) : a = b := by
  cases a with
  | num i => cases b with
    | num j => injection h with h; rw [h]
    | _ => exact nomatch h
  | op o => cases b with
    | num j => exact nomatch h
    | op o' => injection h with h; rw [sign_inj h]
    | lp => exact absurd h (op_lp o)
    | rp => exact absurd h (op_rp o)
  | lp => cases b with
    | num j => exact nomatch h
    | op o' => exact absurd h.symm (op_lp o')
    | lp => rfl
    | rp => injection h with h; revert h; decide
  | rp => cases b with
    | num j => exact nomatch h
    | op o' => exact absurd h.symm (op_rp o')
    | rp => rfl
    | lp => injection h with h; revert h; decide
theorem toks_inj {a b : List Tok5} (h : a.map tokV = b.map tokV) : a = b := List.map_inj_right (fun _ _ => tok_inj) |>.mp h
theorem bal_b (b : B) : bal b.flat 0 := by have := (bal_flat b [] 0).mpr trivial; rwa [List.append_nil] at this
theorem dep_lv : ∀ t : T, t.dep + 1 ≤ t.lv
  | .leaf _ => Nat.le_refl _
  | .node o l r => by
    have := dep_lv l
    have := dep_lv r
    simp only [T.dep, T.lv]; omega
theorem tV_ok : ∀ (t : T) (n : Nat), t.dep ≤ n → (tV t).ok n = true
  | .leaf _, n, _ => by cases n <;> rfl
  | .node o l r, 0, h => nomatch h
  | .node o l r, n + 1, h => by
    simp only [T.dep] at h
    show ([V.str o.sign, tV l, tV r]).all (V.ok n) = true
    simp only [List.all_cons, List.all_nil, Bool.and_true, Bool.and_eq_true]
    exact ⟨str_ok n (sign_ok' o), tV_ok l n (by omega), tV_ok r n (by omega)⟩
section
variable {G : Gl} {ar am ak as_ al at_ asd aw af aa ard ab ap : Addr} (H : Gs5 G ar am ak as_ al at_ asd aw af aa ard ab ap)
include H
theorem law5_loop {t : T} (hlv : t.lv ≤ 20) {base : List MO} (hs : Clo base) :
    Exs (cx G 15 100) ((bodyAt 15).drop 7) ⟨[("after", .lst (t.after.map tokV)), ("tokens", .lst (t.toB.flat.map tokV))], base⟩ fun fl σ => fl.val = .bool true := by
  have hfl := full_len t
  have hbl := (toB_len t).1
  have hal := after_len t
  have hz : t.toB.flat.length ≤ 80 := by omega
  show Exs _ (_ :: _) _ _
  repeat walk_at "ev"
  refine Ev_lstC (by decide) ?_
  repeat walk_at "ev"
  refine Ex_for (fun k σ => ∃ (S : List Nat) (l' : List (Str × V)), σ = ⟨l', base ++ [.list (S.reverse.map fun (k : Nat) => V.int k)]⟩ ∧ S.length ≤ k ∧ bal (t.toB.flat.drop k) S.length ∧ (∀ p ∈ scan (t.toB.flat.drop k) k S, p ∈ scan t.toB.flat 0 []) ∧ Sub [("opened", .ref base.length), ("after", .lst (t.after.map tokV)), ("tokens", .lst (t.toB.flat.map tokV))] l') (fun _ _ => rfl) ?_
  repeat walk_at "ev"
  refine Ev_boot H.nrange c_range (by rfl) ⟨_, rfl, Kp_type, ?_⟩
  repeat walk_at "ev"
  refine Ev_boot H.nlen c_len (by rfl) ⟨_, rfl, Kp_builtin, ?_⟩
  repeat walk_at "ev"
  refine Call_len (.inl rfl) (by simp; omega) ?_
  repeat walk_at "ev"
  refine Call_range1 ?_
  refine ⟨_, Src_up (n := t.toB.flat.length) (by decide) (by simp; omega) (by simp), ⟨[], _, rfl, Nat.le_refl _, bal_b t.toB, fun p hp => hp, .cons rfl (.cons rfl (.cons rfl .nil))⟩, ?_, ?_⟩
  · rintro k v σ' hv ⟨S, l', rfl, hsl, hb, hsc, hsub⟩
    obtain ⟨hk, rfl⟩ := v_is5 _ _ _ hv
    obtain ⟨tk, htk⟩ : ∃ tk, t.toB.flat[k]? = some tk := ⟨_, List.getElem?_eq_getElem hk⟩
    have hdrop : t.toB.flat.drop k = tk :: t.toB.flat.drop (k + 1) := by
      rw [List.drop_eq_getElem_cons hk]; rw [List.getElem?_eq_getElem hk] at htk; cases htk; rfl
    have hat : itemAt (t.toB.flat.map tokV) (0 + (k : Int)) = some (tokV tk) := by
      unfold itemAt
      rw [if_pos (by omega), show ((0 : Int) + (k : Int)).toNat = k by omega, List.getElem?_map, htk]; rfl
    rw [hdrop] at hb hsc
    rw [show (0 : Int) + (k : Int) = (k : Int) by omega] at hat ⊢
    refine Asg_sub hsub ?_
    clear hsub hv
    have hcl : ∀ S : List Nat, Clo (base ++ [.list (S.reverse.map fun (k : Nat) => V.int k)]) := fun S => hs.add fun m hm => by
      cases hm with
      | head => exact (los_all _ _).mpr fun v hv => by obtain ⟨i, -, rfl⟩ := List.mem_map.mp hv; rfl
      | tail _ h => cases h
    repeat walk_at "ev"
    refine Sub_list (.inl rfl) (by simp; omega) hat ?_
    repeat walk_at "ev"
    refine Cmp_eq (Rd.data (tok_ok 8 tk)) (Rd.data lp_ok) fun b hb1 => ?_
    repeat walk_at "ev"
    refine ite_of (fun e => ?_) (fun e => ?_)
    · obtain rfl : tk = .lp := tok_inj (b := .lp) (hb1.mp e)
      show Exs _ (_ :: _) _ _
      refine Exs_cons (Ex_expr (by rfl) (by rfl) ?_)
      refine Ev_meth (fun _ => rfl) (by decide) (by rfl) (by rfl) PySem.F.slot_list_append PySem.F.type_list_append ?_
      repeat walk_at "ev"
      refine ⟨⟨base.length, S.reverse.map fun (k : Nat) => V.int k, rfl, by simp⟩, ?_⟩
      repeat walk_at "ev"
      refine Call_append (vs := S.reverse.map fun (k : Nat) => V.int k) (by simp) (by simp; omega) ?_
      rw [show (base ++ [MO.list (S.reverse.map fun (k : Nat) => V.int k)]).set base.length (.list ((S.reverse.map fun (k : Nat) => V.int k) ++ [.int k])) = base ++ [.list ((k :: S).reverse.map fun (k : Nat) => V.int k)] by simp]
      repeat walk_at "ev"
      refine Sub_list (.inl rfl) (by simp; omega) hat ?_
      repeat walk_at "ev"
      refine Cmp_eq (Rd.data (tok_ok 8 .lp)) (Rd.data rp_ok) fun b hb2 => ?_
      obtain rfl : b = false := by cases b; rfl; exact absurd (hb2.mp rfl) (fun h => by injection h with h; revert h; decide)
      repeat walk_at "ev"
      simp only [Bool.false_eq_true, if_false]
      repeat walk_at "ev"
      exact ⟨[("opened", .ref base.length), ("after", .lst (t.after.map tokV)), ("tokens", .lst (t.toB.flat.map tokV))], .cons rfl (.cons rfl (.cons rfl .nil)), k :: S, _, rfl, by simp; omega, hb, hsc, .cons rfl (.cons rfl (.cons rfl .nil))⟩
    · have hne : tk ≠ .lp := fun h => by subst h; rw [hb1.mpr rfl] at e; cases e
      repeat walk_at "ev"
      refine Sub_list (.inl rfl) (by simp; omega) hat ?_
      repeat walk_at "ev"
      refine Cmp_eq (Rd.data (tok_ok 8 tk)) (Rd.data rp_ok) fun b hb2 => ?_
      repeat walk_at "ev"
      refine ite_of (fun e => ?_) (fun e => ?_)
      · obtain rfl : tk = .rp := tok_inj (b := .rp) (hb2.mp e)
        obtain ⟨j, S, rfl⟩ : ∃ j S', S = j :: S' := by cases S; exact absurd hb id; exact ⟨_, _, rfl⟩
        have hpair := hsc (j, k) (.head _)
        obtain ⟨b1, h1, h2, h3⟩ := pair_other hpair
        show Exs _ (_ :: _) _ _
        repeat walk_at "ev"
        refine Ev_meth0 (fun _ => rfl) (by rfl) PySem.F.slot_list_pop PySem.F.type_list_pop ?_
        repeat walk_at "ev"
        have hcell : (base ++ [MO.list ((j :: S).reverse.map fun (k : Nat) => V.int k)])[base.length]? = some (.list ((S.reverse.map fun (k : Nat) => V.int k) ++ [.int j])) := by simp
        refine ⟨⟨base.length, _, rfl, hcell⟩, ?_⟩
        refine Call_pop hcell (by simp at hsl ⊢; omega) ?_
        rw [show (base ++ [MO.list ((j :: S).reverse.map fun (k : Nat) => V.int k)]).set base.length (.list (S.reverse.map fun (k : Nat) => V.int k)) = base ++ [.list (S.reverse.map fun (k : Nat) => V.int k)] by simp]
        repeat walk_at "ev"
        refine Ev_glob H.nparse (by rfl) ⟨_, rfl, H.kparse, ?_⟩
        repeat walk_at "ev"
        refine ⟨_, rfl, ?_⟩
        repeat walk_at "ev"
        refine ⟨fun e => (nomatch e), _, .inl rfl, by simp; omega, ?_⟩
        repeat walk_at "ev"
        refine ⟨_, rfl, ?_⟩
        repeat walk_at "ev"
        refine ⟨_, rfl, ?_⟩
        repeat walk_at "ev"
        refine ⟨fun e => (nomatch e), _, .inl rfl, by simp; omega, ?_⟩
        rw [slc_to, show (j : Int) + 1 = ((j + 1 : Nat) : Int) by omega, slc_mid _ _ _ (by simp; omega), ← List.map_take, ← List.map_take, ← List.map_drop]
        have hl1 : (t.toB.flat.take j).length ≤ 80 := by rw [List.length_take]; omega
        have hl2 : ((t.toB.flat.take k).drop (j + 1)).length ≤ 80 := by rw [List.length_drop, List.length_take]; omega
        have hl3 : (t.toB.flat.drop (k + 1)).length ≤ 80 := by rw [List.length_drop]; omega
        refine Bin_cat (.inl rfl) (.inl rfl) (by rw [List.length_map, List.length_map, sizeLine_eq]; omega) ?_
        repeat walk_at "ev"
        refine ⟨_, rfl, ?_⟩
        repeat walk_at "ev"
        refine ⟨fun e => (nomatch e), _, .inl rfl, by simp; omega, ?_⟩
        rw [show (k : Int) + 1 = ((k + 1 : Nat) : Int) by omega, slc_from, ← List.map_drop]
        refine Bin_cat (.inl rfl) (.inl rfl) (by rw [List.length_append, List.length_map, List.length_map, List.length_map, sizeLine_eq]; omega) ?_
        rw [← List.map_append, ← List.map_append]
        rw [show t.toB.flat.take j ++ (t.toB.flat.take k).drop (j + 1) ++ t.toB.flat.drop (k + 1) = rem5 j k t.toB.flat from rfl]
        have hl4 : (rem5 j k t.toB.flat).length ≤ 240 := by unfold rem5; rw [List.length_append, List.length_append]; omega
        rw [h1] at h3 hl4 ⊢
        repeat walk_at "ev"
        refine CallV_fun ((parse_spec H (hcl S) (bal_b b1) (by omega)).mono ?_) (Nat.le_of_ble_eq_true rfl)
        rintro v s ⟨rfl, rfl⟩
        rw [out_flat]
        repeat walk_at "ev"
        refine Cmp_eq (Rd.data (toks_ok 7 _)) (Rd.data (toks_ok 7 _)) fun b hb3 => ?_
        obtain rfl : b = false := by
          cases b
          · rfl
          · have := hb3.mp rfl
            injection this with this
            exact absurd (toks_inj this) h3
        repeat walk_at "ev"
        simp only [Bool.false_eq_true, if_false]
        repeat walk_at "ev"
        exact ⟨[("opened", .ref base.length), ("after", .lst (t.after.map tokV)), ("tokens", .lst (t.toB.flat.map tokV))], .cons rfl (.cons rfl (.cons rfl .nil)), S, _, rfl, by simp at hsl; omega, hb, fun p hp => hsc p (.tail _ hp), .cons rfl (.cons rfl (.cons rfl .nil))⟩
      · have hne2 : tk ≠ .rp := fun h => by subst h; rw [hb2.mpr rfl] at e; cases e
        have hb' : bal (t.toB.flat.drop (k + 1)) S.length := by
          cases tk with
          | lp => exact absurd rfl hne
          | rp => exact absurd rfl hne2
          | num i => exact hb
          | op o => exact hb
        have hsc' : ∀ p ∈ scan (t.toB.flat.drop (k + 1)) (k + 1) S, p ∈ scan t.toB.flat 0 [] := by
          cases tk with
          | lp => exact absurd rfl hne
          | rp => exact absurd rfl hne2
          | num i => intro p hp; exact hsc p (by cases S <;> exact hp)
          | op o => intro p hp; exact hsc p (by cases S <;> exact hp)
        repeat walk_at "ev"
        exact ⟨[("opened", .ref base.length), ("after", .lst (t.after.map tokV)), ("tokens", .lst (t.toB.flat.map tokV))], .cons rfl (.cons rfl (.cons rfl .nil)), S, _, rfl, by omega, hb', hsc', .cons rfl (.cons rfl (.cons rfl .nil))⟩
  · rintro σ' ⟨S, l', rfl, -⟩
    refine Exs_nil (Then_next ?_)
    show Exs _ (_ :: _) _ _
    repeat walk_at "ev"
    rfl
end
section
variable {G : Gl} {ar am ak as_ al at_ asd aw af aa ard ab ap : Addr} (H : Gs5 G ar am ak as_ al at_ asd aw af aa ard ab ap)
include H
theorem law5_b {t : T} (hlv : t.lv ≤ 20) {base : List MO} (hs : Clo base) :
    Exs (cx G 15 100) ((bodyAt 15).drop 6) ⟨[("after", .lst (t.after.map tokV)), ("tokens", .lst (t.toB.flat.map tokV)), ("tree", tV t)], base⟩ fun fl σ => fl.val = .bool true := by
  have hal := after_len t
  have hdp := dep_lv t
  have hok : (V.lst [tV t]).ok 24 = true := by show [tV t].all (V.ok 23) = true; simp only [List.all_cons, List.all_nil, Bool.and_true]; exact tV_ok t 23 (by omega)
  show Exs _ (_ :: _) _ _
  repeat walk_at "ev"
  refine Ev_glob H.nred (by rfl) ⟨_, rfl, H.kred, ?_⟩
  repeat walk_at "ev"
  refine Ev_glob H.nbuild (by rfl) ?_
  repeat walk_at "ev"
  refine Ev_boot H.nlist c_list (by rfl) ⟨_, rfl, Kp_type, ?_⟩
  repeat walk_at "ev"
  refine Call_list (.inl rfl) (by simp; omega) ?_
  repeat walk_at "ev"
  refine Ev_lst (by decide) ?_
  repeat walk_at "ev"
  refine CallV_fun ((build_fold H hs (by omega)).mono ?_) (Nat.le_of_ble_eq_true rfl)
  rintro v s ⟨rfl, rfl⟩
  repeat walk_at "ev"
  refine Ev_lst (by decide) ?_
  repeat walk_at "ev"
  refine Cmp_ne_deep hok hok fun b hb => ?_
  obtain rfl : b = false := by cases b; rfl; exact absurd rfl (hb.mp rfl)
  repeat walk_at "ev"
  simp only [Bool.false_eq_true, if_false]
  repeat walk_at "ev"
  refine Ev_glob H.nred (by rfl) ⟨_, rfl, H.kred, ?_⟩
  repeat walk_at "ev"
  refine Ev_glob H.nbuild (by rfl) ?_
  repeat walk_at "ev"
  refine Ev_lst (by decide) ?_
  repeat walk_at "ev"
  refine Ev_lst (by decide) ?_
  repeat walk_at "ev"
  refine Bin_cat (.inl rfl) (.inl rfl) (by simp [sizeLine_eq]; omega) ?_
  repeat walk_at "ev"
  refine CallV_fun ((build_fold2 H hs (by omega)).mono ?_) (Nat.le_of_ble_eq_true rfl)
  rintro v s ⟨rfl, rfl⟩
  repeat walk_at "ev"
  refine Ev_lst (by decide) ?_
  repeat walk_at "ev"
  refine Cmp_ne_deep hok hok fun b hb => ?_
  obtain rfl : b = false := by cases b; rfl; exact absurd rfl (hb.mp rfl)
  repeat walk_at "ev"
  simp only [Bool.false_eq_true, if_false]
  refine All_nil ?_
  refine ite_of (fun e => absurd e (by decide)) (fun _ => ?_)
  refine Exs_nil (Then_next (Exs_sub (.cons rfl (.cons rfl .nil)) (law5_loop H hlv hs)))
theorem law5_a {t : T} (hlv : t.lv ≤ 20) :
    Exs (cx G 15 100) ((bodyAt 15).drop 3) ⟨[("after", .lst (t.after.map tokV)), ("tokens", .lst (t.toB.flat.map tokV)), ("tree", tV t)], []⟩ fun fl σ => fl.val = .bool true := by
  have hal := after_len t
  have hfl := full_len t
  have hbl := (toB_len t).1
  have hdp := dep_lv t
  have hs : Clo [] := fun o ho => nomatch ho
  have o1 : out5 t.toB.flat = t.after.map tokV := by rw [out_flat, parse_flat (toB_legal t), toB_tree]
  have o2 : out5 t.fullB.flat = t.after.map tokV := by rw [out_flat, parse_flat (fullB_legal t), fullB_tree]
  show Exs _ (_ :: _) _ _
  repeat walk_at "ev"
  refine Ev_glob H.nparse (by rfl) ⟨_, rfl, H.kparse, ?_⟩
  repeat walk_at "ev"
  refine CallV_fun ((parse_spec H hs (bal_b t.toB) (by omega)).mono ?_) (Nat.le_of_ble_eq_true rfl)
  rintro v s ⟨rfl, rfl⟩
  rw [o1]
  repeat walk_at "ev"
  refine Cmp_ne_same (Rd.data (toks_ok 7 _)) (Rd.data (toks_ok 7 _)) ?_
  repeat walk_at "ev"
  simp only [Bool.false_eq_true, if_false]
  repeat walk_at "ev"
  refine Ev_glob H.nparse (by rfl) ⟨_, rfl, H.kparse, ?_⟩
  repeat walk_at "ev"
  refine Ev_glob H.nfull (by rfl) ⟨_, rfl, H.kfull, ?_⟩
  repeat walk_at "ev"
  refine CallV_fun ((full_spec H t (by omega) []).mono ?_) (by show t.dep + 1 ≤ 100; omega)
  rintro v s ⟨rfl, rfl⟩
  repeat walk_at "ev"
  refine CallV_fun ((parse_spec H hs (bal_b t.fullB) (by omega)).mono ?_) (Nat.le_of_ble_eq_true rfl)
  rintro v s ⟨rfl, rfl⟩
  rw [o2]
  repeat walk_at "ev"
  refine Cmp_ne_same (Rd.data (toks_ok 7 _)) (Rd.data (toks_ok 7 _)) ?_
  repeat walk_at "ev"
  simp only [Bool.false_eq_true, if_false]
  refine All_nil ?_
  refine ite_of (fun e => absurd e (by decide)) (fun _ => ?_)
  repeat walk_at "ev"
  refine Ev_glob H.nred (by rfl) ⟨_, rfl, H.kred, ?_⟩
  repeat walk_at "ev"
  refine Ev_glob H.nread (by rfl) ?_
  repeat walk_at "ev"
  refine Ev_lst (by decide) ?_
  repeat walk_at "ev"
  refine Ev_lstC (by decide) ?_
  repeat walk_at "ev"
  refine Ev_lstC (by decide) ?_
  repeat walk_at "ev"
  refine Bin_cat (.inl rfl) (.inl rfl) (by simp [sizeLine_eq]; omega) ?_
  repeat walk_at "ev"
  have hln := run_len t.toB.flat ([], [])
  simp only [List.length_nil, Nat.zero_add] at hln
  refine CallV_fun ((red_read2 H hs (bal_b t.toB) (by omega)).mono ?_) (Nat.le_of_ble_eq_true rfl)
  rintro v s ⟨rfl, rfl⟩
  have hl : ([] ++ [MO.list []] ++ [MO.list []] ++ [MO.junk]).length = 3 := rfl
  have hcl : Clo (two5 ([] ++ [MO.list []] ++ [MO.list []] ++ [MO.junk]) 0 1 (run5 ([], []) t.toB.flat).1 (run5 ([], []) t.toB.flat).2) := two_clo _ _ _ _ fun m hm => by
    have : m = .list [] ∨ m = .junk := by simpa using hm
    rcases this with rfl | rfl <;> rfl
  have h1 := two_i (s := [] ++ [MO.list []] ++ [MO.list []] ++ [MO.junk]) (i := 0) (j := 1) (D := (run5 ([], []) t.toB.flat).1) (W := (run5 ([], []) t.toB.flat).2) (by omega) (by omega)
  have h2 := two_j (s := [] ++ [MO.list []] ++ [MO.list []] ++ [MO.junk]) (i := 0) (j := 1) (D := (run5 ([], []) t.toB.flat).1) (W := (run5 ([], []) t.toB.flat).2) (by omega)
  refine Then_next ?_
  dsimp only [List.length_nil]
  generalize two5 ([] ++ [MO.list []] ++ [MO.list []] ++ [MO.junk]) 0 1 (run5 ([], []) t.toB.flat).1 (run5 ([], []) t.toB.flat).2 = S at hcl h1 h2 ⊢
  show Exs _ (_ :: _) _ _
  repeat walk_at "ev"
  refine Sub_tup (show 2 < 2 ^ 60 by decide) (v := .ref 0) (by rfl) ?_
  repeat walk_at "ev"
  refine Sub_tup (show 2 < 2 ^ 60 by decide) (v := .ref 1) (by rfl) ?_
  repeat walk_at "ev"
  refine ⟨_, rfl, ?_⟩
  refine ⟨fun e => (nomatch e), _, .inr ⟨_, rfl, h2⟩, by simp; omega, ?_⟩
  rw [slc_rev]
  refine Bin_cat (.inr ⟨_, rfl, h1⟩) (.inl rfl) (by simp [sizeLine_eq]; omega) ?_
  rw [List.reverse_reverse]
  rw [show (run5 ([], []) t.toB.flat).1.map tokV ++ (run5 ([], []) t.toB.flat).2.map wtV = out5 t.toB.flat from rfl, o1]
  repeat walk_at "ev"
  refine Cmp_ne_same (Rd.data (toks_ok 7 _)) (Rd.data (toks_ok 7 _)) ?_
  repeat walk_at "ev"
  simp only [Bool.false_eq_true, if_false]
  refine Exs_nil (Then_next (Exs_sub (.cons rfl (.cons rfl (.cons rfl .nil))) (law5_b H hlv hcl)))
theorem law5_walk (ns : List Int) (hns : ns.length < 64) : Exs (cx G 15 100) (bodyAt 15) ⟨[("script", .lst (ns.map V.int))], []⟩ fun fl σ => fl.val = .bool true := by
  have hs : Clo [] := fun o ho => nomatch ho
  show Exs _ (_ :: _) _ _
  repeat walk_at "ev"
  refine Ev_glob H.ntree (by rfl) ⟨_, rfl, H.ktree, ?_⟩
  repeat walk_at "ev"
  refine CallV_fun ((tree_spec H ns (by omega)).mono ?_) (Nat.le_of_ble_eq_true rfl)
  rintro v s ⟨t, hlv, rfl, rfl⟩
  have hdp := dep_lv t
  refine Then_next ?_
  dsimp only
  show Exs _ (_ :: _) _ _
  repeat walk_at "ev"
  refine Ev_glob H.nwrite (by rfl) ⟨_, rfl, H.kwrite, ?_⟩
  repeat walk_at "ev"
  refine CallV_fun ((write_spec H hs t (by omega)).mono ?_) (by show 2 * t.dep + 1 ≤ 100; omega)
  rintro v s ⟨rfl, rfl⟩
  refine Then_next ?_
  dsimp only
  show Exs _ (_ :: _) _ _
  repeat walk_at "ev"
  refine Ev_glob H.nafter (by rfl) ⟨_, rfl, H.kafter, ?_⟩
  repeat walk_at "ev"
  refine CallV_fun ((after_spec H t (by omega) []).mono ?_) (by show t.dep + 1 ≤ 100; omega)
  rintro v s ⟨rfl, rfl⟩
  refine Then_next ?_
  exact Exs_sub (.cons rfl (.cons rfl (.cons rfl .nil))) (law5_a H hlv)
end
theorem law5_calls {G : Gl} {ar am ak as_ al at_ asd aw af aa ard ab ap alaw : Addr} (H : Gs5 G ar am ak as_ al at_ asd aw af aa ard ab ap) (F : Fn G alaw 15 .none) (ns : List Int) (hns : ns.length < 64) : Calls G 101 (.ref alaw) [.lst (ns.map V.int)] [] fun v _ => v = .bool true := by
  refine fn_calls F [("script", .lst (ns.map V.int))] (fun nm kV doc pm an cd ct w W xs hx => ?_) (by rfl) (law5_walk H ns hns)
  obtain ⟨x, rfl, r⟩ := one_of hx
  exact ⟨_, .cons r .nil, rfl⟩
theorem signs_of {K : Frag} {G : Gl} {T : Addr} {n : Nat} {t1 t2 t3 t4 : Tok} (X : K.In G.s0.heap) (ho : K.lookup T = some (tupO #[.str "+" t1, .str "-" t2, .str "*" t3, .str "^" t4] n)) (W : Wd) (hW : ∀ a o, G.s0.heap.get? a = some o → W a = .froz o) : VR G.w W signsV (.ref T) :=
  .tup (hW _ _ (X _ _ ho)) (.cons (.str _ t1) (.cons (.str _ t2) (.cons (.str _ t3) (.cons (.str _ t4) .nil))))
theorem tail_of {K : Frag} {G : Gl} {T : Addr} {n : Nat} {t1 t2 t3 t4 t5 t6 t7 t8 : Tok} (X : K.In G.s0.heap) (ho : K.lookup T = some (lstO #[.int 8 t1, .int 5 t2, .int 3 t3, .int 6 t4, .int 1 t5, .int 3 t6, .int 9 t7, .int 3 t8] n)) (W : Wd) (hW : ∀ a o, G.s0.heap.get? a = some o → W a = .froz o) : VR G.w W (.lst (tailL.map V.int)) (.ref T) :=
  .lst (hW _ _ (X _ _ ho)) rfl rfl (.cons (.int 8 t1) (.cons (.int 5 t2) (.cons (.int 3 t3) (.cons (.int 6 t4) (.cons (.int 1 t5) (.cons (.int 3 t6) (.cons (.int 9 t7) (.cons (.int 3 t8) .nil))))))))
end Mine
set_option maxHeartbeats 8000000 in
theorem PySem.Challenge.cw_dw5007_05_holds : PySem.Challenge.rw_dw5007_05.Holds := by
  w_on; o_law; k_head; (case hw => w_witness2)
  w_strict (
    k_fill
    intro w s₀ s₁ mg mb G Y fa o pm cd doc dV kV ho hd hcd hD hmg hg args vals as hpre hlay hrd hwl hlo
    have KX := kIn_of Y
    refine Ground.open G ?_
    intro T B D TE TW
    try (refine guard_noD D (by decide +kernel) ?_; clear D)
    wrow_args hpre hlay hrd hwl hlo
    refine enter_call ?_
    clear hD hcd hd ho B TE TW
    have e1 := mg_of (n := Str.ofString "law") KX T.g (by k_is)
    cases Option.some.inj (e1.symm.trans hmg)
    clear hmg
    refine Mine.law_ends (n₀ := 101) (G := ⟨_, w, s₁, mg, mb, T.g, T.b, T.nolimit, T.builtins⟩) hg (by assumption) (by assumption) ?_ ?_ ?_
    · intro cls; rfl
    · exact Mine.law_post _ _
    · let GG : Mine.Gl := ⟨rw_dw5007_05.row.prog, w, s₁, mg, mb, T.g, T.b, T.nolimit, T.builtins⟩
      have M := Mine.miss_of (G := GG) KX (by k_is) (by k_is) (by k_is) (by k_is)
      have nSigns := Mine.name_of (G := GG) (x := Str.ofString "_law_SIGNS") KX (by k_is)
      have nTail := Mine.name_of (G := GG) (x := Str.ofString "_law_TAIL") KX (by k_is)
      obtain ⟨n2, f2, k2⟩ := Mine.fn_at (G := GG) (x := Str.ofString "reduce") (k := 2) KX (by k_is) (by decide +kernel) (by k_is) (by k_is)
      obtain ⟨n4, f4, k4⟩ := Mine.fn_at (G := GG) (x := Str.ofString "_law_RANK") (k := 4) KX (by k_is) (by decide +kernel) (by k_is) (by k_is)
      obtain ⟨n7, f7, k7⟩ := Mine.fn_at (G := GG) (x := Str.ofString "_law_tree") (k := 7) KX (by k_is) (by decide +kernel) (by k_is) (by k_is)
      obtain ⟨n8, f8, k8⟩ := Mine.fn_at (G := GG) (x := Str.ofString "_law_side") (k := 8) KX (by k_is) (by decide +kernel) (by k_is) (by k_is)
      obtain ⟨n9, f9, k9⟩ := Mine.fn_at (G := GG) (x := Str.ofString "_law_write") (k := 9) KX (by k_is) (by decide +kernel) (by k_is) (by k_is)
      obtain ⟨n10, f10, k10⟩ := Mine.fn_at (G := GG) (x := Str.ofString "_law_full") (k := 10) KX (by k_is) (by decide +kernel) (by k_is) (by k_is)
      obtain ⟨n11, f11, k11⟩ := Mine.fn_at (G := GG) (x := Str.ofString "_law_after") (k := 11) KX (by k_is) (by decide +kernel) (by k_is) (by k_is)
      obtain ⟨n12, f12, k12⟩ := Mine.fn_at (G := GG) (x := Str.ofString "_law_read") (k := 12) KX (by k_is) (by decide +kernel) (by k_is) (by k_is)
      obtain ⟨n13, f13, k13⟩ := Mine.fn_at (G := GG) (x := Str.ofString "_law_build") (k := 13) KX (by k_is) (by decide +kernel) (by k_is) (by k_is)
      obtain ⟨n14, f14, k14⟩ := Mine.fn_at (G := GG) (x := Str.ofString "_law_parse") (k := 14) KX (by k_is) (by decide +kernel) (by k_is) (by k_is)
      obtain ⟨-, f15, -⟩ := Mine.fn_at (G := GG) (x := Str.ofString "law") (k := 15) KX (by k_is) (by decide +kernel) (by k_is) (by k_is)
      exact Mine.law5_calls (G := GG) ⟨n2, Mine.red_of KX f2 (by k_is) M, k2, n4, f4, k4, nSigns, Mine.signs_of KX (by k_is), nTail, Mine.tail_of KX (by k_is), n7, f7, k7, n8, f8, k8, n9, f9, k9, n10, f10, k10, n11, f11, k11, n12, f12, k12, n13, f13, k13, n14, f14, k14, Mine.none_of KX (by k_is), Mine.none_of KX (by k_is), Mine.none_of KX (by k_is), Mine.none_of KX (by k_is), Mine.none_of KX (by k_is)⟩ f15 _ (by omega))
