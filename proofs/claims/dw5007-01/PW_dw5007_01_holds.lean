import PyProof.Rows.All
import Wide.All
import OpenK.AllK
import Wide.FinOn
import Lean
import PySem.Challenge.RW_dw5007_01
open PySem PySem.W PyProof.Rows
set_option Elab.async false
set_option maxRecDepth 100000
namespace Mine
/-- pure values: frozen data, constants, places of the store -/
inductive V where
  | none
  | bool (b : Bool)
  | int (i : Int)
  | str (x : Str)
  | tup (vs : List V)
  | lst (vs : List V)
  | dct (es : List (V × V))
  | rng (a b c : Int)
  | ref (i : Nat)
  | con (v : Value)

/-- what a place of the store holds -/
inductive MO where
  | list (vs : List V)
  | dict (es : List (V × V))
  | tup (vs : List V)
  | iter (src : V) (k : Nat)
  | junk

inductive Role where
  | out
  | froz (o : Obj)
  | prot (o : Obj)
  | cell (i : Nat)
  | own

abbrev Wd := Addr → Role

abbrev lstO (xs : Array Value) (n : Nat) : Obj := { cls := .type "list", data := .seq xs n }
abbrev tupO (xs : Array Value) (n : Nat) : Obj := { cls := .type "tuple", data := .seq xs n }
abbrev dctO (es : Array DictEntry) (n : Nat) : Obj := { cls := .type "dict", data := .dict es n }
abbrev rngO (x y z : Int) (t u v : Tok) : Obj := { cls := .type "range", dict := none, data := .fields #[.int x t, .int y u, .int z v], slots := #[] }
abbrev litO (l i : Value) : Obj := { cls := .type "list_iterator", dict := none, data := .fields #[l, i], slots := #[] }

def keyHash (w : World) : V → Int
  | .int i => hashInt i
  | .str x => hashStr w x
  | _ => 0

mutual
inductive VR (w : World) (W : Wd) : V → Value → Prop
  | none : VR w W .none .none
  | bool (b : Bool) : VR w W (.bool b) (.bool b)
  | int (i : Int) (t : Tok) : VR w W (.int i) (.int i t)
  | str (x : Str) (t : Tok) : VR w W (.str x) (.str x t)
  | tup {a : Addr} {xs : Array Value} {n : Nat} {vs : List V} : W a = .froz (tupO xs n) → VRs w W vs xs.toList → VR w W (.tup vs) (.ref a)
  | lst {a : Addr} {o : Obj} {xs : Array Value} {n : Nat} {vs : List V} : W a = .froz o → o.cls = .type "list" → o.data = .seq xs n → VRs w W vs xs.toList → VR w W (.lst vs) (.ref a)
  | dct {a : Addr} {es : Array DictEntry} {n : Nat} {ds : List (V × V)} : W a = .froz (dctO es n) → 1 < a → DRs w W ds es.toList → VR w W (.dct ds) (.ref a)
  | rng {a : Addr} {x y z : Int} {t u v : Tok} : W a = .froz (rngO x y z t u v) → VR w W (.rng x y z) (.ref a)
  | ref {i : Nat} {a : Addr} : W a = .cell i → VR w W (.ref i) (.ref a)
  | con (v : Value) : VR w W (.con v) v
inductive VRs (w : World) (W : Wd) : List V → List Value → Prop
  | nil : VRs w W [] []
  | cons {v : V} {x : Value} {vs : List V} {xs : List Value} : VR w W v x → VRs w W vs xs → VRs w W (v :: vs) (x :: xs)
inductive DRs (w : World) (W : Wd) : List (V × V) → List DictEntry → Prop
  | nil : DRs w W [] []
  | int {i : Int} {t : Tok} {d : V} {x : Value} {ds : List (V × V)} {es : List DictEntry} : VR w W d x → DRs w W ds es → DRs w W ((.int i, d) :: ds) (⟨hashInt i, .int i t, x⟩ :: es)
  | str {y : Str} {t : Tok} {d : V} {x : Value} {ds : List (V × V)} {es : List DictEntry} : VR w W d x → DRs w W ds es → DRs w W ((.str y, d) :: ds) (⟨hashStr w y, .str y t, x⟩ :: es)
end

/-- W' holds all that W's data stand on -/
def Le (W W' : Wd) : Prop := ∀ a, W a ≠ .out → W' a = W a
/-- the part that data stand on -/
def Leq (W W' : Wd) : Prop := (∀ a o, W a = .froz o → W' a = .froz o) ∧ ∀ a i, W a = .cell i → W' a = .cell i
theorem Le.q {W W' : Wd} (h : Le W W') : Leq W W' := ⟨fun a o e => (h a (by rw [e]; exact fun x => by cases x)).trans e, fun a o e => (h a (by rw [e]; exact fun x => by cases x)).trans e⟩
theorem Le.refl (W : Wd) : Le W W := fun _ _ => rfl
theorem Le.trans {a b c : Wd} (h : Le a b) (k : Le b c) : Le a c := fun x e => (k x (by rw [h x e]; exact e)).trans (h x e)
theorem Leq.refl (W : Wd) : Leq W W := ⟨fun _ _ e => e, fun _ _ e => e⟩
theorem Leq.trans {a b c : Wd} (h : Leq a b) (k : Leq b c) : Leq a c := ⟨fun x o e => k.1 x o (h.1 x o e), fun x o e => k.2 x o (h.2 x o e)⟩

mutual
theorem VR.mono {w : World} {W W' : Wd} (h : Leq W W') : ∀ {v : V} {x : Value}, VR w W v x → VR w W' v x
  | _, _, .none => .none
  | _, _, .bool b => .bool b
  | _, _, .int i t => .int i t
  | _, _, .str i t => .str i t
  | _, _, .tup e r => .tup (h.1 _ _ e) (VRs.mono h r)
  | _, _, .lst e a b r => .lst (h.1 _ _ e) a b (VRs.mono h r)
  | _, _, .dct e lo r => .dct (h.1 _ _ e) lo (DRs.mono h r)
  | _, _, .rng e => .rng (h.1 _ _ e)
  | _, _, .ref e => .ref (h.2 _ _ e)
  | _, _, .con v => .con v
theorem VRs.mono {w : World} {W W' : Wd} (h : Leq W W') : ∀ {v : List V} {x : List Value}, VRs w W v x → VRs w W' v x
  | _, _, .nil => .nil
  | _, _, .cons a b => .cons (VR.mono h a) (VRs.mono h b)
theorem DRs.mono {w : World} {W W' : Wd} (h : Leq W W') : ∀ {v : List (V × V)} {x : List DictEntry}, DRs w W v x → DRs w W' v x
  | _, _, .nil => .nil
  | _, _, .int a b => .int (VR.mono h a) (DRs.mono h b)
  | _, _, .str a b => .str (VR.mono h a) (DRs.mono h b)
end

inductive MR (w : World) (W : Wd) : MO → Obj → Prop
  | list {vs : List V} {xs : Array Value} {n : Nat} : VRs w W vs xs.toList → MR w W (.list vs) (lstO xs n)
  | dict {ds : List (V × V)} {es : Array DictEntry} {n : Nat} : DRs w W ds es.toList → MR w W (.dict ds) (dctO es n)
  | tup {vs : List V} {xs : Array Value} {n : Nat} : VRs w W vs xs.toList → MR w W (.tup vs) (tupO xs n)
  | iter {v : V} {x : Value} {k : Nat} {o : Obj} : o.cls = .type "list_iterator" → o.data = .fields #[x, .int k 0] → VR w W v x → MR w W (.iter v k) o
  | junk (o : Obj) : MR w W .junk o
theorem MR.mono {w : World} {W W' : Wd} (h : Leq W W') {m : MO} {o : Obj} (r : MR w W m o) : MR w W' m o := by
  cases r with
  | list r => exact .list (r.mono h)
  | dict r => exact .dict (r.mono h)
  | tup r => exact .tup (r.mono h)
  | iter a b r => exact .iter a b (r.mono h)
  | junk o => exact .junk o

def HAt (w : World) (W : Wd) (sto : List MO) (h : Heap) (a : Addr) : Role → Prop
  | .out => True
  | .froz o => h.get? a = some o
  | .prot o => h.get? a = some o
  | .own => ∃ o, h.get? a = some o
  | .cell i => ∃ m o, sto[i]? = some m ∧ h.get? a = some o ∧ MR w W m o

structure Gl where
  prog : Program
  w : World
  s0 : Shared
  mg : Str → Option Value
  mb : Str → Option Value
  g : s0.heap.Ns mainGlobals mg
  b : s0.heap.Ns builtinsNs mb
  lim : s0.heap.NoLimit
  bu : ∀ x : Str, x ≠ "__name__" → mb x = bootBuiltins x

structure SimG (G : Gl) (W : Wd) (sto : List MO) (s : Shared) : Prop where
  sh : ∃ h tk, s = { G.s0 with heap := h, toks := tk }
  base : ∀ a o, G.s0.heap.get? a = some o → W a = .froz o
  at_ : ∀ a, HAt G.w W sto s.heap a (W a)
  inj : ∀ a b i, W a = .cell i → W b = .cell i → a = b
  low : ∀ a i, W a = .cell i → 1 < a

structure Cx where
  G : Gl
  scope : Scope
  own : Bool
  n : Nat

structure EnvOk (c : Cx) (env : Env) : Prop where
  scope : env.scope = c.scope
  kind : env.scope.kind = .function
  globals : env.globals = mainGlobals
  builtins : env.builtins = builtinsNs

def AOk (n : Nat) (A : Around) : Prop := A.handled = none ∧ A.depth + n ≤ 890 ∧ A.units + 20 * n ≤ 9000

def CellRole (own : Bool) (W : Wd) (a : Addr) : Prop := if own then W a = .own else ∃ o, W a = .prot o

structure LR (w : World) (W : Wd) (own : Bool) (env : Env) (loc : List (Str × V)) (h : Heap) : Prop where
  ns : ∃ m, h.Ns env.locals m ∧ ∀ x v, env.kindOf x = some .local → loc.lookup x = some v → ∃ v', m x = some v' ∧ VR w W v v'
  mine : W env.locals = .own
  cells : ∀ x, (env.kindOf x = some .cell ∨ env.kindOf x = some .free) → ∃ a vo, env.cells.lookup x = some a ∧ h.IsCell a vo ∧ CellRole own W a ∧ ∀ v, loc.lookup x = some v → ∃ v', vo = some v' ∧ VR w W v v'
  apart : ∀ x y a, env.cells.lookup x = some a → env.cells.lookup y = some a → x = y
  off : ∀ x a, env.cells.lookup x = some a → a ≠ env.locals
  live : ∀ x a, env.cells.lookup x = some a → (∃ vo, h.IsCell a vo) ∧ CellRole own W a

structure St where
  loc : List (Str × V)
  sto : List MO

def Sim (c : Cx) (W : Wd) (env : Env) (σ : St) (s : Shared) : Prop := SimG c.G W σ.sto s ∧ LR c.G.w W c.own env σ.loc s.heap

/-- from every state that fits σ, every tree of T ends, in a state and with a value that fit what Q says -/
def DoG {α β : Type} (c : Cx) (σ : St) (R : Wd → β → α → Prop) (T : Wd → Env → Sem α → Prop) (Q : β → St → Prop) : Prop :=
  ∀ W env s A m, EnvOk c env → AOk c.n A → Sim c W env σ s → T W env m →
    wpAny (model c.G.prog c.G.w) A m (fun x s' => ∃ b σ' W', Q b σ' ∧ Le W W' ∧ R W' b x ∧ Sim c W' env σ' s') (fun _ _ => False) s

def VRc (c : Cx) : Wd → V → Value → Prop := fun W v x => VR c.G.w W v x
def Ev (c : Cx) (e : Expr) (σ : St) (Q : V → St → Prop) : Prop := DoG c σ (VRc c) (fun _ env m => m = eval e env) Q
def Evs (c : Cx) (es : List Expr) (σ : St) (Q : List V → St → Prop) : Prop := DoG c σ (fun W v x => VRs c.G.w W v x ∧ v.length = es.length) (fun _ env m => ∃ p, m = spliced (backTo p (starEach es env))) Q
def Tst (c : Cx) (e : Expr) (σ : St) (Q : Bool → St → Prop) : Prop := DoG c σ (fun _ b x => b = x) (fun _ env m => m = isTrue e env (eval e env)) Q

inductive Fl where
  | next | brk | cont
  | ret (v : V)
inductive FR (w : World) (W : Wd) : Fl → Flow → Prop
  | next : FR w W .next .next
  | brk : FR w W .brk .brk
  | cont : FR w W .cont .cont
  | ret {v : V} {x : Value} : VR w W v x → FR w W (.ret v) (.ret x)
theorem FR.mono {w : World} {W W' : Wd} (h : Leq W W') {f : Fl} {g : Flow} : FR w W f g → FR w W' f g
  | .next => .next | .brk => .brk | .cont => .cont | .ret v => .ret (v.mono h)

def Ex (c : Cx) (st : Stmt) (σ : St) (Q : Fl → St → Prop) : Prop := DoG c σ (fun W f x => FR c.G.w W f x) (fun _ env m => m = exec st env) Q
def Exs (c : Cx) (sts : List Stmt) (σ : St) (Q : Fl → St → Prop) : Prop := DoG c σ (fun W f x => FR c.G.w W f x) (fun _ env m => m = execs sts env) Q
/-- a value goes to a target -/
def Asg (c : Cx) (t : Expr) (v : V) (σ : St) (Q : Unit → St → Prop) : Prop := DoG c σ (fun _ _ _ => True) (fun W env m => ∃ x, VR c.G.w W v x ∧ m = assign t env x) Q

section
variable {α β : Type} {c : Cx} {σ : St} {R : Wd → β → α → Prop} {T : Wd → Env → Sem α → Prop} {Q Q' : β → St → Prop}
theorem DoG.mono (h : DoG c σ R T Q) (k : ∀ b σ, Q b σ → Q' b σ) : DoG c σ R T Q' := fun W env s A m hE hA hS hT =>
  wpAny_mono (h W env s A m hE hA hS hT) (fun _ _ ⟨b, σ', W', q, r⟩ => ⟨b, σ', W', k b σ' q, r⟩) fun _ _ x => x
end

theorem LR.sub {w : World} {W : Wd} {own : Bool} {env : Env} {l l' : List (Str × V)} {h : Heap} (r : LR w W own env l h) (k : ∀ x v, l'.lookup x = some v → l.lookup x = some v) : LR w W own env l' h :=
  ⟨let ⟨m, a, b⟩ := r.ns; ⟨m, a, fun x v e e' => b x v e (k x v e')⟩, r.mine, fun x e => let ⟨a, vo, p, q, o, t⟩ := r.cells x e; ⟨a, vo, p, q, o, fun v e' => t v (k x v e')⟩, r.apart, r.off, r.live⟩
def Sub (l' l : List (Str × V)) : Prop := ∀ p ∈ l', l.lookup p.1 = some p.2
theorem Sub.nil {l : List (Str × V)} : Sub [] l := fun _ h => nomatch h
theorem Sub.cons {l l' : List (Str × V)} {x : Str} {v : V} (h : l.lookup x = some v) (k : Sub l' l) : Sub ((x, v) :: l') l := fun p hp => by
  rcases List.mem_cons.mp hp with rfl | hp
  · exact h
  · exact k p hp
theorem Sub.look {l l' : List (Str × V)} (h : Sub l' l) {x : Str} {v : V} (e : l'.lookup x = some v) : l.lookup x = some v := h _ (mem_of_lookup e)
theorem Sub.refl_of {l : List (Str × V)} : ∀ x v, l.lookup x = some v → l.lookup x = some v := fun _ _ e => e
theorem Sim.sub {c : Cx} {W : Wd} {env : Env} {l l' : List (Str × V)} {sto : List MO} {s : Shared} (h : Sim c W env ⟨l, sto⟩ s) (k : Sub l' l) : Sim c W env ⟨l', sto⟩ s :=
  ⟨h.1, h.2.sub fun _ _ e => k.look e⟩
theorem DoG.sub {α β : Type} {c : Cx} {l l' : List (Str × V)} {sto : List MO} {R : Wd → β → α → Prop} {T : Wd → Env → Sem α → Prop} {Q : β → St → Prop} (h : DoG c ⟨l', sto⟩ R T Q) (k : Sub l' l) : DoG c ⟨l, sto⟩ R T Q :=
  fun W env s A m hE hA hS hT => h W env s A m hE hA (hS.sub k) hT

theorem AOk.in1 {n : Nat} {A : Around} (h : AOk (n + 1) A) : AOk n A.in1 := ⟨h.1, by have := h.2.1; show A.depth + n ≤ 890; omega, by have := h.2.2; show A.units + 1 + 20 * n ≤ 9000; omega⟩
theorem AOk.mark {n : Nat} {A : Around} (h : AOk n A) : AOk n (A.mark none) := ⟨h.1, h.2.1, h.2.2⟩
theorem AOk.deeper {n : Nat} {A : Around} {env : Env} (h : AOk (n + 1) A) : AOk n (A.deeper env) := ⟨h.1, by have := h.2.1; show A.depth + 1 + n ≤ 890; omega, by have := h.2.2; show A.units + 3 + 20 * n ≤ 9000; omega⟩
theorem AOk.room {n : Nat} {A : Around} (h : AOk n A) : A.depth < recursionLimit := by have := h.2.1; show A.depth < 1000; omega
theorem AOk.units {n : Nat} {A : Around} (h : AOk n A) : A.units < cLine := by have := h.2.2; show A.units < 9900; omega
theorem AOk.less {n k : Nat} {A : Around} (h : AOk n A) (e : k ≤ n) : AOk k A := ⟨h.1, by have := h.2.1; omega, by have := h.2.2; omega⟩
def Wd.put (W : Wd) (a : Addr) (r : Role) : Wd := fun b => if b = a then r else W b
theorem Wd.put_self (W : Wd) (a : Addr) (r : Role) : W.put a r a = r := if_pos rfl
theorem Wd.put_ne (W : Wd) {a b : Addr} (r : Role) (h : b ≠ a) : W.put a r b = W b := if_neg h
theorem Le.put {W : Wd} {a : Addr} {r : Role} (h : W a = .out) : Le W (W.put a r) := fun b e => Wd.put_ne W r (by rintro rfl; exact e h)

theorem SimG.out {G : Gl} {W : Wd} {sto : List MO} {s : Shared} {a : Addr} (S : SimG G W sto s) (h : s.heap.get? a = none) : W a = .out := by
  have k := S.at_ a
  revert k
  cases e : W a with
  | out => intro _; rfl
  | froz o => intro k; simp only [HAt] at k; rw [h] at k; cases k
  | prot o => intro k; simp only [HAt] at k; rw [h] at k; cases k
  | own => intro k; simp only [HAt] at k; obtain ⟨o, k⟩ := k; rw [h] at k; cases k
  | cell i => intro k; simp only [HAt] at k; obtain ⟨m, o, _, k, _⟩ := k; rw [h] at k; cases k
theorem fresh_none (h : Heap) {a : Addr} (e : h.objs.size ≤ a) : h.get? a = none := by
  cases q : h.get? a with
  | none => rfl
  | some o => exact absurd (Heap.lt_size q) (Nat.not_lt.mpr e)

theorem HAt.mono {w : World} {W W' : Wd} {sto : List MO} {h h' : Heap} {a : Addr} {r : Role} (q : Leq W W') (k : ∀ o, h.get? a = some o → h'.get? a = some o) (x : HAt w W sto h a r) : HAt w W' sto h' a r := by
  cases r with
  | out => exact trivial
  | froz o => exact k _ x
  | prot o => exact k _ x
  | own => obtain ⟨o, x⟩ := x; exact ⟨o, k _ x⟩
  | cell i => obtain ⟨m, o, e, x, y⟩ := x; exact ⟨m, o, e, k _ x, y.mono q⟩

theorem SimG.keeps {G : Gl} {W : Wd} {sto : List MO} {s : Shared} {h' : Heap} {tk : Nat} (S : SimG G W sto s) (k : ∀ a o, s.heap.get? a = some o → h'.get? a = some o) : SimG G W sto { s with heap := h', toks := tk } :=
  ⟨let ⟨_, _, e⟩ := S.sh; ⟨h', tk, by rw [e]⟩, S.base, fun a => (S.at_ a).mono (Leq.refl W) (k a), S.inj, S.low⟩
theorem LR.keeps {w : World} {W W' : Wd} {own : Bool} {env : Env} {l : List (Str × V)} {h h' : Heap} (r : LR w W own env l h) (q : Leq W W') (ho : ∀ a, W a = .own → W' a = .own) (hp : ∀ a o, W a = .prot o → W' a = .prot o)
    (k : ∀ a o, (W a = .own ∨ ∃ o', W a = .prot o') → h.get? a = some o → h'.get? a = some o) : LR w W' own env l h' := by
  obtain ⟨⟨m, hm, hl⟩, r2, r3, r4, r5, r6⟩ := r
  refine ⟨⟨m, ?_, fun x v e1 e2 => let ⟨v', p, q'⟩ := hl x v e1 e2; ⟨v', p, q'.mono q⟩⟩, ho _ r2, fun x e => ?_, r4, r5, fun x a e => ?_⟩
  · obtain ⟨o, es, ep, b, d⟩ := hm
    exact ⟨o, es, ep, k _ _ (.inl r2) b, d⟩
  · obtain ⟨a, vo, e1, ⟨o, e2, e2'⟩, e3, e4⟩ := r3 x e
    refine ⟨a, vo, e1, ⟨o, k _ _ ?_ e2, e2'⟩, ?_, fun v e => let ⟨v', p, q'⟩ := e4 v e; ⟨v', p, q'.mono q⟩⟩
    · unfold CellRole at e3
      split at e3
      · exact .inl e3
      · exact .inr e3
    · unfold CellRole at e3 ⊢
      split at e3
      · rename_i hc; rw [if_pos hc]; exact ho _ e3
      · rename_i hc; rw [if_neg hc]; exact let ⟨o, e⟩ := e3; ⟨o, hp _ _ e⟩
  · obtain ⟨⟨vo, o, e2, e2'⟩, e3⟩ := r6 x a e
    refine ⟨⟨vo, o, k _ _ ?_ e2, e2'⟩, ?_⟩
    · unfold CellRole at e3
      split at e3
      · exact .inl e3
      · exact .inr e3
    · unfold CellRole at e3 ⊢
      split at e3
      · rename_i hc; rw [if_pos hc]; exact ho _ e3
      · rename_i hc; rw [if_neg hc]; exact let ⟨o, e⟩ := e3; ⟨o, hp _ _ e⟩
theorem LR.le {w : World} {W W' : Wd} {own : Bool} {env : Env} {l : List (Str × V)} {h h' : Heap} (r : LR w W own env l h) (q : Le W W') (k : ∀ a o, h.get? a = some o → h'.get? a = some o) : LR w W' own env l h' :=
  r.keeps q.q (fun a e => (q a (by rw [e]; exact fun x => by cases x)).trans e) (fun a o e => (q a (by rw [e]; exact fun x => by cases x)).trans e) fun a o _ e => k a o e
theorem Sim.keeps {c : Cx} {W : Wd} {env : Env} {σ : St} {s : Shared} {h' : Heap} {tk : Nat} (S : Sim c W env σ s) (k : ∀ a o, s.heap.get? a = some o → h'.get? a = some o) : Sim c W env σ { s with heap := h', toks := tk } :=
  ⟨S.1.keeps k, S.2.le (Le.refl W) k⟩
theorem Sim.toks {c : Cx} {W : Wd} {env : Env} {σ : St} {s : Shared} {tk : Nat} (S : Sim c W env σ s) : Sim c W env σ { s with toks := tk } := S.keeps (h' := s.heap) fun _ _ e => e

theorem low_put {W : Wd} {a : Addr} {ro : Role} (hro : ∀ i, ro ≠ .cell i) (h : ∀ a i, W a = .cell i → 1 < a) : ∀ x i, W.put a ro x = .cell i → 1 < x := fun x i hx => by
  by_cases h1 : x = a
  · subst h1; rw [Wd.put_self] at hx; exact absurd hx (hro i)
  · rw [Wd.put_ne W _ h1] at hx; exact h x i hx
theorem SimG.froz {G : Gl} {W : Wd} {sto : List MO} {s : Shared} {a : Addr} {o : Obj} (S : SimG G W sto s) (h : W a = .out) (e : s.heap.get? a = some o) : SimG G (W.put a (.froz o)) sto s := by
  have L : Le W (W.put a (.froz o)) := Le.put h
  refine ⟨S.sh, fun b o' k => ?_, fun b => ?_, fun x y i hx hy => ?_, fun x i hx => ?_⟩
  · have := S.base b o' k
    exact L.q.1 b o' this
  · by_cases hb : b = a
    · subst hb; rw [Wd.put_self]; exact e
    · rw [Wd.put_ne W _ hb]; exact (S.at_ b).mono L.q fun _ x => x
  · by_cases h1 : x = a
    · subst h1; rw [Wd.put_self] at hx; cases hx
    · by_cases h2 : y = a
      · subst h2; rw [Wd.put_self] at hy; cases hy
      · rw [Wd.put_ne W _ h1] at hx; rw [Wd.put_ne W _ h2] at hy; exact S.inj x y i hx hy
  · by_cases h1 : x = a
    · subst h1; rw [Wd.put_self] at hx; cases hx
    · rw [Wd.put_ne W _ h1] at hx; exact S.low x i hx
theorem Sim.froz {c : Cx} {W : Wd} {env : Env} {σ : St} {s : Shared} {a : Addr} {o : Obj} (S : Sim c W env σ s) (h : W a = .out) (e : s.heap.get? a = some o) : Sim c (W.put a (.froz o)) env σ s :=
  ⟨S.1.froz h e, S.2.le (Le.put h) fun _ _ e => e⟩
/-- a new frozen object -/
theorem Sim.push {c : Cx} {W : Wd} {env : Env} {σ : St} {s : Shared} {o : Obj} (S : Sim c W env σ s) (hf : o.isFreed = false) :
    Sim c (W.put s.heap.objs.size (.froz o)) env σ { s with heap := s.heap.push o } ∧ Le W (W.put s.heap.objs.size (.froz o)) := by
  have ho : W s.heap.objs.size = .out := S.1.out (fresh_none _ (Nat.le_refl _))
  have S' : Sim c W env σ { s with heap := s.heap.push o } := S.keeps (tk := s.toks) fun a o' e => Heap.get?_push_of_some _ e
  exact ⟨S'.froz ho (Heap.get?_push_size _ hf), Le.put ho⟩
theorem SimG.push {G : Gl} {W : Wd} {sto : List MO} {s : Shared} {o : Obj} (S : SimG G W sto s) (hf : o.isFreed = false) :
    SimG G (W.put s.heap.objs.size (.froz o)) sto { s with heap := s.heap.push o } ∧ Le W (W.put s.heap.objs.size (.froz o)) := by
  have ho : W s.heap.objs.size = .out := S.out (fresh_none _ (Nat.le_refl _))
  have S' : SimG G W sto { s with heap := s.heap.push o } := S.keeps (tk := s.toks) fun a o' e => Heap.get?_push_of_some _ e
  exact ⟨S'.froz ho (Heap.get?_push_size _ hf), Le.put ho⟩

theorem SimG.top {G : Gl} {W : Wd} {sto : List MO} {s : Shared} (S : SimG G W sto s) : 1 < s.heap.objs.size := by
  obtain ⟨o, _, _, e, _⟩ := G.g
  have q := S.at_ mainGlobals
  rw [S.base _ _ e] at q
  have := Heap.lt_size q
  exact Nat.lt_trans (by decide) this
theorem SimG.cell {G : Gl} {W : Wd} {sto : List MO} {s : Shared} {a : Addr} {o : Obj} {m : MO} (S : SimG G W sto s) (hlo : 1 < a) (h : W a = .out) (e : s.heap.get? a = some o) (r : MR G.w W m o) : SimG G (W.put a (.cell sto.length)) (sto ++ [m]) s := by
  have L : Le W (W.put a (.cell sto.length)) := Le.put h
  refine ⟨S.sh, fun b o' k => L.q.1 b o' (S.base b o' k), fun b => ?_, fun x y i hx hy => ?_, fun x i hx => ?_⟩
  · by_cases hb : b = a
    · subst hb; rw [Wd.put_self]; exact ⟨m, o, by simp, e, r.mono L.q⟩
    · rw [Wd.put_ne W _ hb]
      have q := (S.at_ b).mono L.q (fun _ x => x)
      revert q
      cases W b with
      | cell i => exact fun ⟨m', o', e1, e2, e3⟩ => ⟨m', o', by rw [List.getElem?_append_left (List.getElem?_eq_some_iff.mp e1).1]; exact e1, e2, e3⟩
      | _ => exact id
  · have lt : ∀ z i, W z = .cell i → i < sto.length := fun z i e => by
      have q := S.at_ z
      rw [e] at q
      obtain ⟨_, _, e1, _⟩ := q
      exact (List.getElem?_eq_some_iff.mp e1).1
    by_cases h1 : x = a
    · subst h1; rw [Wd.put_self] at hx; cases hx
      by_cases h2 : y = x
      · exact h2.symm
      · rw [Wd.put_ne W _ h2] at hy; exact absurd (lt _ _ hy) (Nat.lt_irrefl _)
    · rw [Wd.put_ne W _ h1] at hx
      by_cases h2 : y = a
      · subst h2; rw [Wd.put_self] at hy; cases hy; exact absurd (lt _ _ hx) (Nat.lt_irrefl _)
      · rw [Wd.put_ne W _ h2] at hy; exact S.inj x y i hx hy
  · by_cases h1 : x = a
    · rw [h1]; exact hlo
    · rw [Wd.put_ne W _ h1] at hx; exact S.low x i hx
theorem Sim.cell {c : Cx} {W : Wd} {env : Env} {loc : List (Str × V)} {sto : List MO} {s : Shared} {a : Addr} {o : Obj} {m : MO} (S : Sim c W env ⟨loc, sto⟩ s) (hlo : 1 < a) (h : W a = .out) (e : s.heap.get? a = some o) (r : MR c.G.w W m o) : Sim c (W.put a (.cell sto.length)) env ⟨loc, sto ++ [m]⟩ s :=
  ⟨S.1.cell hlo h e r, S.2.le (Le.put h) fun _ _ e => e⟩
theorem Sim.newCell {c : Cx} {W : Wd} {env : Env} {loc : List (Str × V)} {sto : List MO} {s : Shared} {o : Obj} {m : MO} (S : Sim c W env ⟨loc, sto⟩ s) (hf : o.isFreed = false) (r : MR c.G.w W m o) :
    Sim c (W.put s.heap.objs.size (.cell sto.length)) env ⟨loc, sto ++ [m]⟩ { s with heap := s.heap.push o } ∧ Le W (W.put s.heap.objs.size (.cell sto.length)) := by
  have ho : W s.heap.objs.size = .out := S.1.out (fresh_none _ (Nat.le_refl _))
  have S' : Sim c W env ⟨loc, sto⟩ { s with heap := s.heap.push o } := S.keeps (tk := s.toks) fun a o' e => Heap.get?_push_of_some _ e
  exact ⟨S'.cell S.1.top ho (Heap.get?_push_size _ hf) r, Le.put ho⟩

theorem SimG.set {G : Gl} {W : Wd} {sto : List MO} {s : Shared} {a : Addr} {i : Nat} {o' : Obj} {m' : MO} {h' : Heap} {tk : Nat} (S : SimG G W sto s) (h : W a = .cell i) (hs : Heap.SameBut a s.heap h') (e : h'.get? a = some o') (r : MR G.w W m' o') :
    SimG G W (sto.set i m') { s with heap := h', toks := tk } := by
  refine ⟨let ⟨_, _, e⟩ := S.sh; ⟨h', tk, by rw [e]⟩, S.base, fun b => ?_, S.inj, S.low⟩
  by_cases hb : b = a
  · subst hb
    have q := S.at_ b
    rw [h] at q ⊢
    obtain ⟨m, o, e1, _, _⟩ := q
    exact ⟨m', o', by rw [List.getElem?_set_self (List.getElem?_eq_some_iff.mp e1).1], e, r⟩
  · have q := (S.at_ b).mono (Leq.refl W) (h' := h') (fun o x => (hs.2 b hb).trans x)
    revert q
    cases e' : W b with
    | cell j =>
      rintro ⟨m, o, e1, e2, e3⟩
      refine ⟨m, o, ?_, e2, e3⟩
      rw [List.getElem?_set_ne]
      · exact e1
      · rintro rfl; exact hb (S.inj _ _ _ e' h)
    | _ => exact id
theorem Sim.set {c : Cx} {W : Wd} {env : Env} {loc : List (Str × V)} {sto : List MO} {s : Shared} {a : Addr} {i : Nat} {o' : Obj} {m' : MO} {h' : Heap} {tk : Nat} (S : Sim c W env ⟨loc, sto⟩ s) (h : W a = .cell i) (hs : Heap.SameBut a s.heap h') (e : h'.get? a = some o') (r : MR c.G.w W m' o') :
    Sim c W env ⟨loc, sto.set i m'⟩ { s with heap := h', toks := tk } :=
  ⟨S.1.set h hs e r, S.2.keeps (Leq.refl W) (fun _ e => e) (fun _ _ e => e) fun b o hb e => (hs.2 b (by rintro rfl; rw [h] at hb; rcases hb with hb | ⟨_, hb⟩ <;> cases hb)).trans e⟩

/-- the frame's own objects change -/
theorem SimG.mine {G : Gl} {W : Wd} {sto : List MO} {s : Shared} {a : Addr} {o' : Obj} {h' : Heap} {tk : Nat} (S : SimG G W sto s) (h : W a = .own) (hs : Heap.SameBut a s.heap h') (e : h'.get? a = some o') : SimG G W sto { s with heap := h', toks := tk } := by
  refine ⟨let ⟨_, _, e⟩ := S.sh; ⟨h', tk, by rw [e]⟩, S.base, fun b => ?_, S.inj, S.low⟩
  by_cases hb : b = a
  · subst hb; rw [h]; exact ⟨o', e⟩
  · exact (S.at_ b).mono (Leq.refl W) fun o x => (hs.2 b hb).trans x

theorem lookup_cons_self {α : Type} (x : Str) (v : α) (l : List (Str × α)) : ((x, v) :: l).lookup x = some v := by simp
theorem lookup_cons_ne {α : Type} {x y : Str} (v : α) (l : List (Str × α)) (h : y ≠ x) : ((x, v) :: l).lookup y = l.lookup y := by
  simp [List.lookup, beq_eq_false_iff_ne.mpr h]

section
variable {c : Cx} {W : Wd} {env : Env} {loc : List (Str × V)} {sto : List MO} {s : Shared} {M : Model} {A : Around} {E : Value → Shared → Prop}

theorem Sim.storeLocal {x : Str} {v : V} {v' : Value} {Q : Unit → Shared → Prop} (S : Sim c W env ⟨loc, sto⟩ s) (hk : env.scope.kind = .function) (hl : env.kindOf x = some .local) (hv : VR c.G.w W v v')
    (h : ∀ s', Sim c W env ⟨(x, v) :: loc, sto⟩ s' → Q () s') : wpAny M A (storeName env x v') Q E s := by
  obtain ⟨⟨m, hm, hl'⟩, r2, r3, r4, r5, r6⟩ := S.2
  refine wpAny_storeName_local hl hm (fun h' hn hs => h _ ⟨?_, ⟨⟨_, hn, fun y u e1 e2 => ?_⟩, r2, fun y e => ?_, r4, r5, fun y a e => ⟨let ⟨vo, e2⟩ := (r6 y a e).1; ⟨vo, e2.sameBut hs (r5 y a e)⟩, (r6 y a e).2⟩⟩⟩) (by show (env.scope.kind == .class || (env.scope.kind == .module && _)) = false; rw [hk]; rfl)
  · obtain ⟨o, _, _, e, _⟩ := hn
    exact S.1.mine r2 hs e
  · by_cases hy : y = x
    · subst hy
      rw [lookup_cons_self] at e2
      cases e2
      exact ⟨v', if_pos rfl, hv⟩
    · dsimp only at e2
      rw [lookup_cons_ne _ _ hy] at e2
      obtain ⟨u', p, q⟩ := hl' y u e1 e2
      exact ⟨u', (if_neg hy).trans p, q⟩
  · obtain ⟨a, vo, e1, e2, e3, e4⟩ := r3 y e
    refine ⟨a, vo, e1, e2.sameBut hs (r5 y a e1), e3, fun u e5 => ?_⟩
    have hy : y ≠ x := by rintro rfl; rw [hl] at e; rcases e with e | e <;> cases e
    rw [lookup_cons_ne _ _ hy] at e5
    exact e4 u e5

theorem Sim.storeCell {x : Str} {v : V} {v' : Value} {Q : Unit → Shared → Prop} (S : Sim c W env ⟨loc, sto⟩ s) (hk : env.scope.kind = .function) (hl : env.kindOf x = some .cell) (ho : c.own = true) (hv : VR c.G.w W v v')
    (h : ∀ s', Sim c W env ⟨(x, v) :: loc, sto⟩ s' → Q () s') : wpAny M A (storeName env x v') Q E s := by
  obtain ⟨⟨m, hm, hl'⟩, r2, r3, r4, r5, r6⟩ := S.2
  obtain ⟨a, vo, e1, e2, e3, e4⟩ := r3 x (.inl hl)
  have ha : W a = .own := by unfold CellRole at e3; rw [if_pos ho] at e3; exact e3
  have hal : a ≠ env.locals := r5 x a e1
  refine wpAny_storeName_cell hk hl e1 e2 (fun h' hn hs => h { s with heap := h' } ⟨?_, ⟨⟨m, ?_, fun y u f1 f2 => ?_⟩, r2, fun y f => ?_, r4, r5, fun y b f => ?_⟩⟩)
  · obtain ⟨o, e, _⟩ := hn
    exact S.1.mine (tk := s.toks) ha hs e
  · obtain ⟨o, es, ep, b, d⟩ := hm
    exact ⟨o, es, ep, (hs.2 _ (Ne.symm hal)).trans b, d⟩
  · by_cases hy : y = x
    · subst hy; rw [hl] at f1; cases f1
    · dsimp only at f2
      rw [lookup_cons_ne _ _ hy] at f2
      exact hl' y u f1 f2
  · by_cases hy : y = x
    · subst hy
      refine ⟨a, some v', e1, hn, e3, fun u f2 => ?_⟩
      rw [lookup_cons_self] at f2
      cases f2
      exact ⟨v', rfl, hv⟩
    · obtain ⟨b, vb, g1, g2, g3, g4⟩ := r3 y f
      refine ⟨b, vb, g1, g2.sameBut hs (by rintro rfl; exact hy (r4 _ _ _ g1 e1)), g3, fun u f2 => ?_⟩
      rw [lookup_cons_ne _ _ hy] at f2
      exact g4 u f2
  · refine ⟨?_, (r6 y b f).2⟩
    by_cases hb : b = a
    · subst hb; exact ⟨_, hn⟩
    · obtain ⟨vo, e2⟩ := (r6 y b f).1
      exact ⟨vo, e2.sameBut hs hb⟩

theorem Sim.storeName {x : Str} {v : V} {v' : Value} {Q : Unit → Shared → Prop} (S : Sim c W env ⟨loc, sto⟩ s) (hE : EnvOk c env) (hl : c.scope.names.lookup x = some .local ∨ (c.scope.names.lookup x = some .cell ∧ c.own = true)) (hv : VR c.G.w W v v')
    (h : ∀ s', Sim c W env ⟨(x, v) :: loc, sto⟩ s' → Q () s') : wpAny M A (storeName env x v') Q E s := by
  have hk : env.kindOf x = c.scope.names.lookup x := by unfold Env.kindOf; rw [hE.scope]
  rcases hl with hl | ⟨hl, ho⟩
  · exact S.storeLocal hE.kind (hk.trans hl) hv h
  · exact S.storeCell hE.kind (hk.trans hl) ho hv h

theorem Sim.loadName {x : Str} {v : V} {Q : Value → Shared → Prop} (S : Sim c W env ⟨loc, sto⟩ s) (hE : EnvOk c env) (hx : loc.lookup x = some v) (hl : c.scope.names.lookup x = some .local ∨ c.scope.names.lookup x = some .cell ∨ c.scope.names.lookup x = some .free)
    (h : ∀ v', VR c.G.w W v v' → Q v' s) (hn : (x == ("__classdict__" : Str)) = false) : wpAny M A (loadName env x) Q E s := by
  have hk : env.kindOf x = c.scope.names.lookup x := by unfold Env.kindOf; rw [hE.scope]
  obtain ⟨⟨m, hm, hl'⟩, r2, r3, r4, r5, r6⟩ := S.2
  rcases hl with hl | hl | hl
  · obtain ⟨v', e, r⟩ := hl' x v (hk.trans hl) hx
    exact wpAny_loadName_local hE.kind (hk.trans hl) hm e (h v' r)
  · obtain ⟨a, vo, e1, e2, e3, e4⟩ := r3 x (.inl (hk.trans hl))
    obtain ⟨v', rfl, r⟩ := e4 v hx
    exact wpAny_loadName_cell hE.kind (hk.trans hl) e1 e2 (h v' r)
  · obtain ⟨a, vo, e1, e2, e3, e4⟩ := r3 x (.inr (hk.trans hl))
    obtain ⟨v', rfl, r⟩ := e4 v hx
    exact wpAny_loadName_free hE.kind (hk.trans hl) e1 e2 (h v' r) hn
end
/-- an environment of a scope alone -/
def dEnv (sc : Scope) : Env := { scope := sc, locals := 0, globals := 0, cells := [] }
theorem swapsWith_d (e : Expr) (t : Option Expr) (l : Nat) (env : Env) : swapsWith e t l env = swapsWith e t l (dEnv env.scope) := rfl
theorem swapsSole_d (ts : List Expr) (e : Expr) (l : Nat) (env : Env) : swapsWithSole ts e l env = swapsWithSole ts e l (dEnv env.scope) := by
  unfold swapsWithSole
  split <;> first | exact swapsWith_d _ _ _ _ | rfl
theorem swappedStores_d (ts : List Expr) (e : Expr) (env : Env) : swappedStores ts e env = swappedStores ts e (dEnv env.scope) := rfl
theorem interactive_d (env : Env) : interactive env = interactive (dEnv env.scope) := rfl

/-- a value's operation -/
def BinV (c : Cx) (op : Operator) (a b : V) (σ : St) (Q : V → St → Prop) : Prop := DoG c σ (VRc c) (fun W _ m => ∃ x y, VR c.G.w W a x ∧ VR c.G.w W b y ∧ m = binaryOp op x y) Q
def CmpV (c : Cx) (op : CmpOp) (a b : V) (σ : St) (Q : V → St → Prop) : Prop := DoG c σ (VRc c) (fun W _ m => ∃ x y, VR c.G.w W a x ∧ VR c.G.w W b y ∧ m = compareOp op x y) Q
def UnaV (c : Cx) (op : UnaryOp) (a : V) (σ : St) (Q : V → St → Prop) : Prop := DoG c σ (VRc c) (fun W _ m => ∃ x, VR c.G.w W a x ∧ m = unaryOp op x) Q
def TruV (c : Cx) (a : V) (σ : St) (Q : Bool → St → Prop) : Prop := DoG c σ (fun _ b x => b = x) (fun W _ m => ∃ x, VR c.G.w W a x ∧ m = truthy x) Q
def SubV (c : Cx) (value slice : Expr) (a i : V) (σ : St) (Q : V → St → Prop) : Prop := DoG c σ (VRc c) (fun W _ m => ∃ x y, VR c.G.w W a x ∧ VR c.G.w W i y ∧ m = subscriptTail value slice x y) Q
def CallV (c : Cx) (f : Value) (vs : List V) (σ : St) (Q : V → St → Prop) : Prop := DoG c σ (VRc c) (fun W _ m => ∃ xs, VRs c.G.w W vs xs ∧ m = call f xs) Q
def SetV (c : Cx) (o i v : V) (σ : St) (Q : Unit → St → Prop) : Prop := DoG c σ (fun _ _ _ => True) (fun W _ m => ∃ x y z, VR c.G.w W o x ∧ VR c.G.w W i y ∧ VR c.G.w W v z ∧ m = setItem x y z) Q

section
variable {c : Cx} {σ : St}

/-- one tree after another -/
theorem seq1 {α β : Type} {W : Wd} {env : Env} {s : Shared} {A : Around} {R : Wd → β → α → Prop} {T : Wd → Env → Sem α → Prop} {Q : β → St → Prop} {m : Sem α} {k : α → Shared → Prop} {E : Value → Shared → Prop}
    (h : DoG c σ R T Q) (hE : EnvOk c env) (hA : AOk c.n A) (hS : Sim c W env σ s) (hT : T W env m)
    (hk : ∀ b σ' W' x s', Q b σ' → Le W W' → R W' b x → Sim c W' env σ' s' → k x s') : wpAny (model c.G.prog c.G.w) A m k E s := by
  refine wpAny_mono (h W env s A m hE hA hS hT) (fun x s' ⟨b, σ', W', q, l, r, S⟩ => hk b σ' W' x s' q l r S) fun _ _ x => x.elim

/-- a name of the frame's own -/
def isMine (sc : Scope) (x : Str) : Bool := match sc.names.lookup x with
  | some .local => !(x == ("__debug__" : Str))
  | some .cell => !(x == ("__debug__" : Str))
  | some .free => !(x == ("__debug__" : Str)) && !(x == ("__classdict__" : Str))
  | _ => false
def isGlob (sc : Scope) (x : Str) : Bool := sc.names.lookup x == some .globalImplicit && !(x == ("__debug__" : Str)) && !(x == ("__name__" : Str))
theorem Ev_name {x : Str} {pos : Pos} {v : V} {Q : V → St → Prop} {loc : List (Str × V)} {sto : List MO} (hx : loc.lookup x = some v) (hl : isMine c.scope x = true) (h : Q v ⟨loc, sto⟩) : Ev c (.Name x pos) ⟨loc, sto⟩ Q := by
  intro W env s A m hE hA hS hT
  subst hT
  have hk : env.kindOf x = c.scope.names.lookup x := by unfold Env.kindOf; rw [hE.scope]
  obtain ⟨⟨m, hm, hl'⟩, r2, r3, r4, r5, r6⟩ := hS.2
  unfold isMine at hl
  split at hl
  · rename_i e
    have hn : (x == ("__debug__" : Str)) = false := by simpa using hl
    obtain ⟨v', e', r⟩ := hl' x v (hk.trans e) hx
    exact wpAny_Name (wpAny_loadName_local hE.kind (hk.trans e) hm e' ⟨v, _, W, h, Le.refl W, r, hS⟩) hn
  · rename_i e
    have hn : (x == ("__debug__" : Str)) = false := by simpa using hl
    obtain ⟨a, vo, e1, e2, e3, e4⟩ := r3 x (.inl (hk.trans e))
    obtain ⟨v', rfl, r⟩ := e4 v hx
    exact wpAny_Name (wpAny_loadName_cell hE.kind (hk.trans e) e1 e2 ⟨v, _, W, h, Le.refl W, r, hS⟩) hn
  · rename_i e
    rw [Bool.and_eq_true] at hl
    have hn : (x == ("__debug__" : Str)) = false := by simpa using hl.1
    have hn' : (x == ("__classdict__" : Str)) = false := by simpa using hl.2
    obtain ⟨a, vo, e1, e2, e3, e4⟩ := r3 x (.inr (hk.trans e))
    obtain ⟨v', rfl, r⟩ := e4 v hx
    exact wpAny_Name (wpAny_loadName_free hE.kind (hk.trans e) e1 e2 ⟨v, _, W, h, Le.refl W, r, hS⟩ hn') hn
  · cases hl

theorem Ev_glob {x : Str} {pos : Pos} {v : Value} {Q : V → St → Prop} (hx : c.G.mg x = some v) (hl : isGlob c.scope x = true) (h : Q (.con v) σ) : Ev c (.Name x pos) σ Q := by
  intro W env s A m hE hA hS hT
  subst hT
  simp only [isGlob, Bool.and_eq_true, beq_iff_eq, Bool.not_eq_true'] at hl
  obtain ⟨⟨hl, hn⟩, _⟩ := hl
  have hk : env.kindOf x = c.scope.names.lookup x := by unfold Env.kindOf; rw [hE.scope]
  have hg : s.heap.Ns env.globals c.G.mg := by rw [hE.globals]; exact c.G.g.keeps fun a o e => by have q := hS.1.at_ a; rw [hS.1.base a o e] at q; exact q
  exact Calls.Name_function_global hE.kind (hk.trans hl) (Calls.loadGlobal_global hg hx ⟨.con v, σ, W, h, Le.refl W, .con v, hS⟩) hn

theorem base_keeps {G : Gl} {W : Wd} {sto : List MO} {s : Shared} (S : SimG G W sto s) : ∀ a o, G.s0.heap.get? a = some o → s.heap.get? a = some o := fun a o e => by
  have q := S.at_ a; rw [S.base a o e] at q; exact q

theorem Ev_boot {x : Str} {pos : Pos} {v : Value} {Q : V → St → Prop} (hx : c.G.mg x = none) (hv : bootBuiltins x = some v) (hl : isGlob c.scope x = true) (h : Q (.con v) σ) : Ev c (.Name x pos) σ Q := by
  intro W env s A m hE hA hS hT
  subst hT
  simp only [isGlob, Bool.and_eq_true, beq_iff_eq, Bool.not_eq_true'] at hl
  obtain ⟨⟨hl, hn⟩, hm'⟩ := hl
  have hm : x ≠ "__name__" := beq_eq_false_iff_ne.mp hm'
  have hk : env.kindOf x = c.scope.names.lookup x := by unfold Env.kindOf; rw [hE.scope]
  have hg : s.heap.Ns env.globals c.G.mg := by rw [hE.globals]; exact c.G.g.keeps (base_keeps hS.1)
  have hb : s.heap.Ns env.builtins c.G.mb := by rw [hE.builtins]; exact c.G.b.keeps (base_keeps hS.1)
  exact Calls.Name_function_global hE.kind (hk.trans hl) (Calls.loadGlobal_builtin hg hx hb ((c.G.bu x hm).trans hv) ⟨.con v, σ, W, h, Le.refl W, .con v, hS⟩) hn

theorem Ev_int {i : Int} {k : Nat} {pos : Pos} {Q : V → St → Prop} (h : Q (.int i) σ) : Ev c (.Constant (.int i) k pos) σ Q := by
  intro W env s A m hE hA hS hT
  subst hT
  exact wpAny_Constant_int ⟨.int i, σ, W, h, Le.refl W, .int i _, hS.toks⟩
theorem Ev_none {k : Nat} {pos : Pos} {Q : V → St → Prop} (h : Q .none σ) : Ev c (.Constant .none k pos) σ Q := by
  intro W env s A m hE hA hS hT
  subst hT
  exact wpAny_Constant_none ⟨.none, σ, W, h, Le.refl W, .none, hS⟩
theorem Ev_bool {b : Bool} {k : Nat} {pos : Pos} {Q : V → St → Prop} (h : Q (.bool b) σ) : Ev c (.Constant (.bool b) k pos) σ Q := by
  intro W env s A m hE hA hS hT
  subst hT
  exact wpAny_Constant_bool ⟨.bool b, σ, W, h, Le.refl W, .bool b, hS⟩
theorem Ev_str {x : Str} {k : Nat} {pos : Pos} {Q : V → St → Prop} (h : Q (.str x) σ) : Ev c (.Constant (.str x) k pos) σ Q := by
  intro W env s A m hE hA hS hT
  subst hT
  exact wpAny_Constant_str ⟨.str x, σ, W, h, Le.refl W, .str x _, hS.toks⟩

theorem Ev_bin {l r : Expr} {op : Operator} {pos : Pos} {Q : V → St → Prop} (h : Ev c l σ fun a σ₁ => Ev c r σ₁ fun b σ₂ => BinV c op a b σ₂ Q) : Ev c (.BinOp l op r pos) σ Q := by
  intro W env s A m hE hA hS hT
  subst hT
  refine wpAny_BinOp (seq1 h hE hA hS rfl fun a σ₁ W₁ x s₁ h₁ l₁ r₁ S₁ => seq1 h₁ hE hA S₁ rfl fun b σ₂ W₂ y s₂ h₂ l₂ r₂ S₂ => seq1 h₂ hE hA S₂ ⟨x, y, r₁.mono l₂.q, r₂, rfl⟩ fun v σ₃ W₃ z s₃ q l₃ r₃ S₃ => ?_)
  exact ⟨v, σ₃, W₃, q, (l₁.trans l₂).trans l₃, r₃, S₃⟩
theorem Ev_cmp {l r : Expr} {op : CmpOp} {pos : Pos} {Q : V → St → Prop} (hm : behindInMarks op r = false) (h : Ev c l σ fun a σ₁ => Ev c r σ₁ fun b σ₂ => CmpV c op a b σ₂ Q) : Ev c (.Compare l [op] [r] pos) σ Q := by
  intro W env s A m hE hA hS hT
  subst hT
  refine wpAny_Compare1 (seq1 h hE hA hS rfl fun a σ₁ W₁ x s₁ h₁ l₁ r₁ S₁ => seq1 h₁ hE hA S₁ rfl fun b σ₂ W₂ y s₂ h₂ l₂ r₂ S₂ => seq1 h₂ hE hA S₂ ⟨x, y, r₁.mono l₂.q, r₂, rfl⟩ fun v σ₃ W₃ z s₃ q l₃ r₃ S₃ => ?_) hm
  exact ⟨v, σ₃, W₃, q, (l₁.trans l₂).trans l₃, r₃, S₃⟩
theorem Ev_una {e : Expr} {op : UnaryOp} {pos : Pos} {Q : V → St → Prop} (h : Ev c e σ fun a σ₁ => UnaV c op a σ₁ Q) : Ev c (.UnaryOp op e pos) σ Q := by
  intro W env s A m hE hA hS hT
  subst hT
  refine wpAny_UnaryOp (seq1 h hE hA hS rfl fun a σ₁ W₁ x s₁ h₁ l₁ r₁ S₁ => seq1 h₁ hE hA S₁ ⟨x, r₁, rfl⟩ fun v σ₃ W₃ z s₃ q l₃ r₃ S₃ => ?_)
  exact ⟨v, σ₃, W₃, q, l₁.trans l₃, r₃, S₃⟩
theorem Ev_ifexp {t b o : Expr} {pos : Pos} {Q : V → St → Prop} (h : Tst c t σ fun k σ₁ => if k then Ev c b σ₁ Q else Ev c o σ₁ Q) : Ev c (.IfExp t b o pos) σ Q := by
  intro W env s A m hE hA hS hT
  subst hT
  refine wpAny_IfExp (seq1 h hE hA hS rfl fun k σ₁ W₁ x s₁ h₁ l₁ r₁ S₁ => ?_)
  subst r₁
  cases k
  · simp only [Bool.false_eq_true, if_false] at h₁ ⊢
    exact seq1 h₁ hE hA S₁ rfl fun v σ₃ W₃ z s₃ q l₃ r₃ S₃ => ⟨v, σ₃, W₃, q, l₁.trans l₃, r₃, S₃⟩
  · simp only [if_true] at h₁ ⊢
    exact seq1 h₁ hE hA S₁ rfl fun v σ₃ W₃ z s₃ q l₃ r₃ S₃ => ⟨v, σ₃, W₃, q, l₁.trans l₃, r₃, S₃⟩
theorem Ev_sub {value slice : Expr} {pos : Pos} {Q : V → St → Prop} (h : Ev c value σ fun a σ₁ => Ev c slice σ₁ fun i σ₂ => SubV c value slice a i σ₂ Q) : Ev c (.Subscript value slice pos) σ Q := by
  intro W env s A m hE hA hS hT
  subst hT
  refine Subscript_ (seq1 h hE hA hS rfl fun a σ₁ W₁ x s₁ h₁ l₁ r₁ S₁ => seq1 h₁ hE hA S₁ rfl fun b σ₂ W₂ y s₂ h₂ l₂ r₂ S₂ => seq1 h₂ hE hA S₂ ⟨x, y, r₁.mono l₂.q, r₂, rfl⟩ fun v σ₃ W₃ z s₃ q l₃ r₃ S₃ => ?_)
  exact ⟨v, σ₃, W₃, q, (l₁.trans l₂).trans l₃, r₃, S₃⟩

theorem Evs_nil {Q : List V → St → Prop} (h : Q [] σ) : Evs c [] σ Q := by
  intro W env s A m hE hA hS hT
  obtain ⟨p, rfl⟩ := hT
  exact wpAny_pure ⟨[], σ, W, h, Le.refl W, ⟨.nil, rfl⟩, hS⟩
theorem Evs_cons {e : Expr} {es : List Expr} {Q : List V → St → Prop} (hs : isStarred e = false) (h : Ev c e σ fun v σ₁ => Evs c es σ₁ fun vs σ₂ => Q (v :: vs) σ₂) : Evs c (e :: es) σ Q := by
  intro W env s A m hE hA hS hT
  obtain ⟨p, rfl⟩ := hT
  have e1 : starEach (e :: es) env = (false, eval e env) :: starEach es env := by
    cases e <;> first | rfl | cases hs
  rw [e1]
  show wpAny _ _ (spliced ((false, eval e env) :: backTo p (starEach es env))) _ _ s
  refine Calls.spliced_cons (seq1 h hE hA hS rfl fun a σ₁ W₁ x s₁ h₁ l₁ r₁ S₁ => seq1 h₁ hE hA S₁ ⟨p, rfl⟩ fun vs σ₂ W₂ ys s₂ h₂ l₂ r₂ S₂ => ?_)
  exact ⟨a :: vs, σ₂, W₂, h₂, l₁.trans l₂, ⟨.cons (r₁.mono l₂.q) r₂.1, by rw [List.length_cons, List.length_cons, r₂.2]⟩, S₂⟩

theorem VRs.length {w : World} {W : Wd} : ∀ {vs : List V} {xs : List Value}, VRs w W vs xs → xs.length = vs.length
  | _, _, .nil => rfl
  | _, _, .cons _ r => by rw [List.length_cons, List.length_cons, r.length]
theorem VRs.get {w : World} {W : Wd} : ∀ {vs : List V} {xs : List Value}, VRs w W vs xs → ∀ {k : Nat} {v : V}, vs[k]? = some v → ∃ x, xs[k]? = some x ∧ VR w W v x
  | _, _, .nil, _, _, h => by simp at h
  | _, _, .cons a r, 0, _, h => by simp at h; subst h; exact ⟨_, rfl, a⟩
  | _, _, .cons a r, k + 1, _, h => by simpa using r.get (by simpa using h)
theorem VRs.append {w : World} {W : Wd} : ∀ {vs ws : List V} {xs ys : List Value}, VRs w W vs xs → VRs w W ws ys → VRs w W (vs ++ ws) (xs ++ ys)
  | _, _, _, _, .nil, k => k
  | _, _, _, _, .cons a r, k => .cons a (r.append k)
theorem VRs.one {w : World} {W : Wd} {v : V} {x : Value} (h : VR w W v x) : VRs w W [v] [x] := .cons h .nil

/-- a display laid as data -/
theorem Ev_tup {elts : List Expr} {k : Nat} {pos : Pos} {Q : V → St → Prop} (hn : elts.length < 1000) (h : Evs c elts σ fun vs σ₁ => Q (.tup vs) σ₁) : Ev c (.Tuple elts k pos) σ Q := by
  intro W env s A m hE hA hS hT
  subst hT
  refine wpAny_Tuple_spliced (seq1 h hE hA hS ⟨pos, rfl⟩ fun vs σ₁ W₁ xs s₁ h₁ l₁ r₁ S₁ => ⟨?_, ?_⟩)
  · rw [r₁.1.length, r₁.2, sizeLine_eq]; omega
  · obtain ⟨S₂, l₂⟩ := S₁.push (o := tupO xs.toArray 0) rfl
    exact ⟨.tup vs, σ₁, _, h₁, l₁.trans l₂, .tup (Wd.put_self _ _ _) (r₁.1.mono l₂.q), S₂⟩
theorem Ev_lst {elts : List Expr} {pos : Pos} {Q : V → St → Prop} (hn : elts.length < 1000) (h : Evs c elts σ fun vs σ₁ => Q (.lst vs) σ₁) : Ev c (.List elts pos) σ Q := by
  intro W env s A m hE hA hS hT
  subst hT
  refine wpAny_List_spliced (seq1 h hE hA hS ⟨pos, rfl⟩ fun vs σ₁ W₁ xs s₁ h₁ l₁ r₁ S₁ => ⟨?_, ?_⟩)
  · rw [r₁.1.length, r₁.2, sizeLine_eq]; omega
  · obtain ⟨S₂, l₂⟩ := S₁.push (o := lstO xs.toArray 0) rfl
    exact ⟨.lst vs, σ₁, _, h₁, l₁.trans l₂, .lst (Wd.put_self _ _ _) rfl rfl (r₁.1.mono l₂.q), S₂⟩
/-- a list display laid into the store -/
theorem Ev_lstC {elts : List Expr} {pos : Pos} {Q : V → St → Prop} (hn : elts.length < 1000) (h : Evs c elts σ fun vs σ₁ => Q (.ref σ₁.sto.length) ⟨σ₁.loc, σ₁.sto ++ [.list vs]⟩) : Ev c (.List elts pos) σ Q := by
  intro W env s A m hE hA hS hT
  subst hT
  refine wpAny_List_spliced (seq1 h hE hA hS ⟨pos, rfl⟩ fun vs σ₁ W₁ xs s₁ h₁ l₁ r₁ S₁ => ⟨?_, ?_⟩)
  · rw [r₁.1.length, r₁.2, sizeLine_eq]; omega
  · obtain ⟨S₂, l₂⟩ := Sim.newCell (o := lstO xs.toArray 0) (m := .list vs) S₁ rfl (.list r₁.1)
    exact ⟨_, _, _, h₁, l₁.trans l₂, .ref (Wd.put_self _ _ _), S₂⟩

theorem Tst_val {e : Expr} {Q : Bool → St → Prop} (he : ∀ env, isTrue e env (eval e env) = (do let v ← eval e env; standAt e.pos; holding [v] (truthy v))) (h : Ev c e σ fun v σ₁ => TruV c v σ₁ Q) : Tst c e σ Q := by
  intro W env s A m hE hA hS hT
  subst hT
  refine wpAny_isTrue_value (seq1 h hE hA hS rfl fun a σ₁ W₁ x s₁ h₁ l₁ r₁ S₁ => seq1 h₁ hE hA S₁ ⟨x, r₁, rfl⟩ fun v σ₃ W₃ z s₃ q l₃ r₃ S₃ => ?_) (he env)
  exact ⟨v, σ₃, W₃, q, l₁.trans l₃, r₃, S₃⟩
theorem Tst_cmp {l r : Expr} {op : CmpOp} {pos : Pos} {Q : Bool → St → Prop} (hm : behindInMarks op r = false) (h : Ev c l σ fun a σ₁ => Ev c r σ₁ fun b σ₂ => CmpV c op a b σ₂ fun v σ₃ => TruV c v σ₃ Q) : Tst c (.Compare l [op] [r] pos) σ Q := by
  intro W env s A m hE hA hS hT
  subst hT
  refine wpAny_isTrue_Compare1 (seq1 h hE hA hS rfl fun a σ₁ W₁ x s₁ h₁ l₁ r₁ S₁ => seq1 h₁ hE hA S₁ rfl fun b σ₂ W₂ y s₂ h₂ l₂ r₂ S₂ => seq1 h₂ hE hA S₂ ⟨x, y, r₁.mono l₂.q, r₂, rfl⟩ fun v σ₃ W₃ z s₃ h₃ l₃ r₃ S₃ => seq1 h₃ hE hA S₃ ⟨z, r₃, rfl⟩ fun k σ₄ W₄ z' s₄ q l₄ r₄ S₄ => ?_) hm
  exact ⟨k, σ₄, W₄, q, ((l₁.trans l₂).trans l₃).trans l₄, r₄, S₄⟩
theorem Tst_not {e : Expr} {pos : Pos} {Q : Bool → St → Prop} (h : Tst c e σ fun b σ₁ => Q (!b) σ₁) : Tst c (.UnaryOp .Not e pos) σ Q := by
  intro W env s A m hE hA hS hT
  subst hT
  refine wpAny_isTrue_Not (seq1 h hE hA hS rfl fun b σ₁ W₁ x s₁ h₁ l₁ r₁ S₁ => ⟨!b, σ₁, W₁, h₁, l₁, ?_, S₁⟩)
  rw [r₁]
def All (c : Cx) (op : BoolOp) (es : List Expr) (σ : St) (Q : Bool → St → Prop) : Prop := DoG c σ (fun _ b x => b = x) (fun _ env m => m = allTrue op es env) Q
theorem Tst_bool {op : BoolOp} {es : List Expr} {pos : Pos} {Q : Bool → St → Prop} (h : All c op es σ Q) : Tst c (.BoolOp op es pos) σ Q := by
  intro W env s A m hE hA hS hT
  subst hT
  exact wpAny_isTrue_BoolOp (h W env s A _ hE hA hS rfl)
theorem All_nil {op : BoolOp} {Q : Bool → St → Prop} (h : Q (op == .And) σ) : All c op [] σ Q := by
  intro W env s A m hE hA hS hT
  subst hT
  exact wpAny_pure ⟨_, σ, W, h, Le.refl W, rfl, hS⟩
theorem All_or {e : Expr} {es : List Expr} {Q : Bool → St → Prop} (h : Tst c e σ fun b σ₁ => if b then Q true σ₁ else All c .Or es σ₁ Q) : All c .Or (e :: es) σ Q := by
  intro W env s A m hE hA hS hT
  subst hT
  show wpAny _ _ (isTrue e env (eval e env) >>= fun b => _) _ _ s
  refine wpAny_bind (seq1 h hE hA hS rfl fun b σ₁ W₁ x s₁ h₁ l₁ r₁ S₁ => ?_)
  subst r₁
  cases b
  · simp only [Bool.false_eq_true, if_false] at h₁
    exact seq1 h₁ hE hA S₁ rfl fun v σ₃ W₃ z s₃ q l₃ r₃ S₃ => ⟨v, σ₃, W₃, q, l₁.trans l₃, r₃, S₃⟩
  · exact wpAny_pure ⟨true, σ₁, W₁, by simpa using h₁, l₁, rfl, S₁⟩
theorem All_and {e : Expr} {es : List Expr} {Q : Bool → St → Prop} (h : Tst c e σ fun b σ₁ => if b then All c .And es σ₁ Q else Q false σ₁) : All c .And (e :: es) σ Q := by
  intro W env s A m hE hA hS hT
  subst hT
  show wpAny _ _ (isTrue e env (eval e env) >>= fun b => _) _ _ s
  refine wpAny_bind (seq1 h hE hA hS rfl fun b σ₁ W₁ x s₁ h₁ l₁ r₁ S₁ => ?_)
  subst r₁
  cases b
  · exact wpAny_pure ⟨false, σ₁, W₁, by simpa using h₁, l₁, rfl, S₁⟩
  · simp only [if_true] at h₁
    exact seq1 h₁ hE hA S₁ rfl fun v σ₃ W₃ z s₃ q l₃ r₃ S₃ => ⟨v, σ₃, W₃, q, l₁.trans l₃, r₃, S₃⟩

theorem TruV_bool {b : Bool} {Q : Bool → St → Prop} (h : Q b σ) : TruV c (.bool b) σ Q := by
  intro W env s A m hE hA hS hT
  obtain ⟨x, r, rfl⟩ := hT
  cases r
  exact wpAny_truthy_bool ⟨b, σ, W, h, Le.refl W, rfl, hS⟩

/-- and, or as a value -/
def BopV (c : Cx) (pos : Pos) (op : BoolOp) (es : List Expr) (σ : St) (Q : V → St → Prop) : Prop := DoG c σ (VRc c) (fun _ env m => m = boolOp pos op (evalEach es env)) Q
theorem Ev_bool_op {op : BoolOp} {es : List Expr} {pos : Pos} {Q : V → St → Prop} (h : BopV c pos op es σ Q) : Ev c (.BoolOp op es pos) σ Q := by
  intro W env s A m hE hA hS hT
  subst hT
  exact h W env s A _ hE hA hS rfl
theorem Bop_one {op : BoolOp} {e : Expr} {pos : Pos} {Q : V → St → Prop} (h : Ev c e σ Q) : BopV c pos op [e] σ Q := by
  intro W env s A m hE hA hS hT
  subst hT
  exact h W env s A _ hE hA hS rfl
theorem Bop_or {e f : Expr} {es : List Expr} {pos : Pos} {Q : V → St → Prop} (h : Ev c e σ fun v σ₁ => TruV c v σ₁ fun b σ₂ => if b then Q v σ₂ else BopV c pos .Or (f :: es) σ₂ Q) : BopV c pos .Or (e :: f :: es) σ Q := by
  intro W env s A m hE hA hS hT
  subst hT
  show wpAny _ _ (eval e env >>= fun v => (do standAt pos; let t ← holding [v] (truthy v); _)) _ _ s
  refine wpAny_bind (seq1 h hE hA hS rfl fun v σ₁ W₁ x s₁ h₁ l₁ r₁ S₁ => wpAny_bind (wpAny_standAt (wpAny_bind (wpAny_holding (seq1 h₁ hE hA S₁ ⟨x, r₁, rfl⟩ fun b σ₂ W₂ y s₂ h₂ l₂ r₂ S₂ => ?_)))))
  subst r₂
  cases b
  · simp only [Bool.false_eq_true, if_false] at h₂
    exact seq1 h₂ hE hA S₂ rfl fun v σ₃ W₃ z s₃ q l₃ r₃ S₃ => ⟨v, σ₃, W₃, q, (l₁.trans l₂).trans l₃, r₃, S₃⟩
  · exact wpAny_pure ⟨v, σ₂, W₂, by simpa using h₂, l₁.trans l₂, r₁.mono l₂.q, S₂⟩
theorem Bop_and {e f : Expr} {es : List Expr} {pos : Pos} {Q : V → St → Prop} (h : Ev c e σ fun v σ₁ => TruV c v σ₁ fun b σ₂ => if b then BopV c pos .And (f :: es) σ₂ Q else Q v σ₂) : BopV c pos .And (e :: f :: es) σ Q := by
  intro W env s A m hE hA hS hT
  subst hT
  show wpAny _ _ (eval e env >>= fun v => (do standAt pos; let t ← holding [v] (truthy v); _)) _ _ s
  refine wpAny_bind (seq1 h hE hA hS rfl fun v σ₁ W₁ x s₁ h₁ l₁ r₁ S₁ => wpAny_bind (wpAny_standAt (wpAny_bind (wpAny_holding (seq1 h₁ hE hA S₁ ⟨x, r₁, rfl⟩ fun b σ₂ W₂ y s₂ h₂ l₂ r₂ S₂ => ?_)))))
  subst r₂
  cases b
  · exact wpAny_pure ⟨v, σ₂, W₂, by simpa using h₂, l₁.trans l₂, r₁.mono l₂.q, S₂⟩
  · simp only [if_true] at h₂
    exact seq1 h₂ hE hA S₂ rfl fun v σ₃ W₃ z s₃ q l₃ r₃ S₃ => ⟨v, σ₃, W₃, q, (l₁.trans l₂).trans l₃, r₃, S₃⟩

/-! statements -/
theorem Exs_nil {Q : Fl → St → Prop} (h : Q .next σ) : Exs c [] σ Q := by
  intro W env s A m hE hA hS hT
  subst hT
  exact wpAny_execs_nil ⟨.next, σ, W, h, Le.refl W, .next, hS⟩
/-- what stands behind a statement -/
def Then (c : Cx) (rest : List Stmt) (Q : Fl → St → Prop) : Fl → St → Prop
  | .next, σ => Exs c rest σ Q
  | f, σ => Q f σ
theorem Exs_cons {st : Stmt} {rest : List Stmt} {Q : Fl → St → Prop} (h : Ex c st σ (Then c rest Q)) : Exs c (st :: rest) σ Q := by
  intro W env s A m hE hA hS hT
  subst hT
  refine wpAny_execs_cons (seq1 h hE hA hS rfl fun f σ₁ W₁ x s₁ h₁ l₁ r₁ S₁ => ?_)
  cases r₁ with
  | next => exact seq1 (T := fun _ env m => m = execs rest env) h₁ hE hA S₁ rfl fun v σ₃ W₃ z s₃ q l₃ r₃ S₃ => ⟨v, σ₃, W₃, q, l₁.trans l₃, r₃, S₃⟩
  | brk => exact ⟨.brk, σ₁, W₁, h₁, l₁, .brk, S₁⟩
  | cont => exact ⟨.cont, σ₁, W₁, h₁, l₁, .cont, S₁⟩
  | ret r => exact ⟨.ret _, σ₁, W₁, h₁, l₁, .ret r, S₁⟩
theorem Ex_if {t : Expr} {b o : List Stmt} {pos : Pos} {Q : Fl → St → Prop} (h : Tst c t σ fun k σ₁ => if k then Exs c b σ₁ Q else Exs c o σ₁ Q) : Ex c (.If t b o pos) σ Q := by
  intro W env s A m hE hA hS hT
  subst hT
  refine wpAny_If (seq1 h hE hA hS rfl fun k σ₁ W₁ x s₁ h₁ l₁ r₁ S₁ => ?_)
  subst r₁
  cases k
  · simp only [Bool.false_eq_true, if_false] at h₁ ⊢
    exact seq1 h₁ hE hA S₁ rfl fun v σ₃ W₃ z s₃ q l₃ r₃ S₃ => ⟨v, σ₃, W₃, q, l₁.trans l₃, r₃, S₃⟩
  · simp only [if_true] at h₁ ⊢
    exact seq1 h₁ hE hA S₁ rfl fun v σ₃ W₃ z s₃ q l₃ r₃ S₃ => ⟨v, σ₃, W₃, q, l₁.trans l₃, r₃, S₃⟩
theorem Ex_ret {e : Expr} {pos : Pos} {Q : Fl → St → Prop} (h : Ev c e σ fun v σ₁ => Q (.ret v) σ₁) : Ex c (.Return (some e) pos) σ Q := by
  intro W env s A m hE hA hS hT
  subst hT
  exact wpAny_Return_some (seq1 h hE hA hS rfl fun v σ₁ W₁ x s₁ h₁ l₁ r₁ S₁ => ⟨.ret v, σ₁, W₁, h₁, l₁, .ret r₁, S₁⟩)
theorem Ex_expr {e : Expr} {pos : Pos} {Q : Fl → St → Prop} (hi : interactive (dEnv c.scope) = false) (hs : swapsWith e none pos.line (dEnv c.scope) = pure false) (h : Ev c e σ fun _ σ₁ => Q .next σ₁) : Ex c (.Expr e pos) σ Q := by
  intro W env s A m hE hA hS hT
  subst hT
  exact wpAny_Expr_any (seq1 h hE hA hS rfl fun v σ₁ W₁ x s₁ h₁ l₁ r₁ S₁ => ⟨.next, σ₁, W₁, h₁, l₁, .next, S₁⟩) (by rw [interactive_d, hE.scope]; exact hi) (by rw [swapsWith_d, hE.scope]; exact hs)
/-- a plain name's store -/
def Ok (c : Cx) (x : Str) : Prop := c.scope.names.lookup x = some .local ∨ (c.scope.names.lookup x = some .cell ∧ c.own = true)
def isOk (sc : Scope) (own : Bool) (x : Str) : Bool := match sc.names.lookup x with
  | some .local => true
  | some .cell => own
  | _ => false
theorem Ok.of {x : Str} (h : isOk c.scope c.own x = true) : Ok c x := by
  unfold isOk at h
  split at h
  · exact .inl ‹_›
  · exact .inr ⟨‹_›, h⟩
  · cases h
theorem Ex_asg {x : Str} {p pos : Pos} {e : Expr} {Q : Fl → St → Prop} (hs : swapsWith e (some (.Name x p)) pos.line (dEnv c.scope) = pure false) (hx : Ok c x) (h : Ev c e σ fun v σ₁ => Q .next ⟨(x, v) :: σ₁.loc, σ₁.sto⟩) : Ex c (.Assign [.Name x p] e pos) σ Q := by
  intro W env s A m hE hA hS hT
  subst hT
  refine wpAny_Assign_Name (seq1 h hE hA hS rfl fun v σ₁ W₁ y s₁ h₁ l₁ r₁ S₁ => ?_) (by rw [swapsWith_d, hE.scope]; exact hs)
  exact S₁.storeName hE hx r₁ fun s' S' => ⟨.next, _, W₁, h₁, l₁, .next, S'⟩
theorem Asg_name {x : Str} {p : Pos} {v : V} {Q : Unit → St → Prop} (hx : Ok c x) (h : Q () ⟨(x, v) :: σ.loc, σ.sto⟩) : Asg c (.Name x p) v σ Q := by
  intro W env s A m hE hA hS hT
  obtain ⟨y, r, rfl⟩ := hT
  exact wpAny_assign_Name (hS.storeName hE hx r fun s' S' => ⟨(), _, W, h, Le.refl W, trivial, S'⟩)
theorem Ex_asgT {elts : List Expr} {k : Nat} {p pos : Pos} {e : Expr} {Q : Fl → St → Prop} (hs : swapsWithSole [.Tuple elts k p] e pos.line (dEnv c.scope) = pure false) (hw : swappedStores [.Tuple elts k p] e (dEnv c.scope) = pure none) (h : Ev c e σ fun v σ₁ => Asg c (.Tuple elts k p) v σ₁ fun _ σ₂ => Q .next σ₂) : Ex c (.Assign [.Tuple elts k p] e pos) σ Q := by
  intro W env s A m hE hA hS hT
  subst hT
  exact Assign_Tuple (seq1 h hE hA hS rfl fun v σ₁ W₁ y s₁ h₁ l₁ r₁ S₁ => seq1 h₁ hE hA S₁ ⟨y, r₁, rfl⟩ fun _ σ₂ W₂ _ s₂ h₂ l₂ _ S₂ => ⟨.next, σ₂, W₂, h₂, l₁.trans l₂, .next, S₂⟩) (by rw [swapsSole_d, hE.scope]; exact hs) (by rw [swappedStores_d, hE.scope]; exact hw)
theorem Ex_asgS {o i e : Expr} {p pos : Pos} {Q : Fl → St → Prop} (hs : swapsWith e (some (.Subscript o i p)) pos.line (dEnv c.scope) = pure false) (h : Ev c e σ fun v σ₁ => Ev c o σ₁ fun ov σ₂ => Ev c i σ₂ fun iv σ₃ => SetV c ov iv v σ₃ fun _ σ₄ => Q .next σ₄) : Ex c (.Assign [.Subscript o i p] e pos) σ Q := by
  intro W env s A m hE hA hS hT
  subst hT
  exact wpAny_Assign_Subscript (seq1 h hE hA hS rfl fun v σ₁ W₁ y s₁ h₁ l₁ r₁ S₁ => seq1 h₁ hE hA S₁ rfl fun v₂ σ₂ W₂ y₂ s₂ h₂ l₂ r₂ S₂ => seq1 h₂ hE hA S₂ rfl fun v₃ σ₃ W₃ y₃ s₃ h₃ l₃ r₃ S₃ =>
    seq1 h₃ hE hA S₃ ⟨y₂, y₃, y, r₂.mono l₃.q, r₃, r₁.mono (l₂.trans l₃).q, rfl⟩ fun _ σ₄ W₄ _ s₄ h₄ l₄ _ S₄ => ⟨.next, σ₄, W₄, h₄, ((l₁.trans l₂).trans l₃).trans l₄, .next, S₄⟩) (by rw [swapsWith_d, hE.scope]; exact hs)
theorem Ex_pass {pos : Pos} {Q : Fl → St → Prop} (h : Q .next σ) : Ex c (.Pass pos) σ Q := by
  intro W env s A m hE hA hS hT
  subst hT
  exact wpAny_Pass ⟨.next, σ, W, h, Le.refl W, .next, hS⟩
end
section
variable {c : Cx} {σ : St}

/-! ints -/
theorem int_of {w : World} {W : Wd} {i : Int} {x : Value} (h : VR w W (.int i) x) : ∃ t, x = .int i t := by cases h; exact ⟨_, rfl⟩
theorem noPyl {a b : Int} (h : b.natAbs < 2 ^ 64) : Builtin.divisionGoesByPylong a b = false := by
  refine PyProof.noPylong_of_log2 ?_
  by_cases h0 : b.natAbs = 0
  · rw [h0]; decide +kernel
  · have : b.natAbs.log2 < 64 := (Nat.log2_lt h0).mpr h
    omega
/-- an operation on values that leaves the state but for tokens -/
theorem DoG_bin {op : Operator} {a b r : Int} {Q : V → St → Prop} (H : ∀ (A : Around) (s : Shared) (t u : Tok) (Q' : Value → Shared → Prop), (Q' (.int r s.toks) { s with toks := s.toks + 1 }) → wpAny (model c.G.prog c.G.w) A (binaryOp op (.int a t) (.int b u)) Q' (fun _ _ => False) s)
    (h : Q (.int r) σ) : BinV c op (.int a) (.int b) σ Q := by
  intro W env s A m hE hA hS hT
  obtain ⟨x, y, hx, hy, rfl⟩ := hT
  obtain ⟨t, rfl⟩ := int_of hx
  obtain ⟨u, rfl⟩ := int_of hy
  exact H A s t u _ ⟨_, σ, W, h, Le.refl W, .int _ _, hS.toks⟩
theorem Bin_add {a b : Int} {Q : V → St → Prop} (h : Q (.int (a + b)) σ) : BinV c .Add (.int a) (.int b) σ Q := DoG_bin (fun _ _ _ _ _ q => PyProof.Rows.add_int q) h
theorem Bin_sub {a b : Int} {Q : V → St → Prop} (h : Q (.int (a - b)) σ) : BinV c .Sub (.int a) (.int b) σ Q := DoG_bin (fun _ _ _ _ _ q => PyProof.Rows.sub_int q) h
theorem Bin_mul {a b : Int} {Q : V → St → Prop} (hm : IntMulOk a b) (h : Q (.int (a * b)) σ) : BinV c .Mult (.int a) (.int b) σ Q := DoG_bin (fun _ _ _ _ _ q => PyProof.Rows.mul_int q hm) h
theorem Bin_div {a b : Int} {Q : V → St → Prop} (hb : b ≠ 0) (hs : b.natAbs < 2 ^ 64) (h : Q (.int (a.fdiv b)) σ) : BinV c .FloorDiv (.int a) (.int b) σ Q := DoG_bin (fun _ _ _ _ _ q => PyProof.Rows.floordiv_int hb q (.inl (noPyl hs))) h
theorem Bin_mod {a b : Int} {Q : V → St → Prop} (hb : b ≠ 0) (h : Q (.int (a.fmod b)) σ) : BinV c .Mod (.int a) (.int b) σ Q := DoG_bin (fun _ _ _ _ _ q => PyProof.Rows.mod_int' hb q) h
theorem Bin_or {a b : Int} {Q : V → St → Prop} (h : Q (.int (Builtin.bitOr a b)) σ) : BinV c .BitOr (.int a) (.int b) σ Q := DoG_bin (fun _ _ _ _ _ q => PyProof.Rows.or_int q) h
theorem Bin_pow {a n : Int} {Q : V → St → Prop} (hn : 0 ≤ n) (hz : (Builtin.Int.intBits a : Int) * n ≤ 2 ^ 27) (h : Q (.int (a ^ n.toNat)) σ) : BinV c .Pow (.int a) (.int n) σ Q := DoG_bin (fun _ _ _ _ _ q => PyProof.Rows.pow_int hn hz q) h
theorem Una_neg {a : Int} {Q : V → St → Prop} (h : Q (.int (-a)) σ) : UnaV c .USub (.int a) σ Q := by
  intro W env s A m hE hA hS hT
  obtain ⟨x, hx, rfl⟩ := hT
  obtain ⟨t, rfl⟩ := int_of hx
  exact PyProof.Rows.neg_int ⟨_, σ, W, h, Le.refl W, .int _ _, hS.toks⟩
theorem Tru_int {a : Int} {Q : Bool → St → Prop} (h : Q (a != 0) σ) : TruV c (.int a) σ Q := by
  intro W env s A m hE hA hS hT
  obtain ⟨x, hx, rfl⟩ := hT
  obtain ⟨t, rfl⟩ := int_of hx
  exact PyProof.Rows.truthy_int ⟨_, σ, W, h, Le.refl W, rfl, hS⟩
theorem DoG_cmp {op : CmpOp} {a b : Int} {r : Bool} {Q : V → St → Prop} (H : ∀ (A : Around) (s : Shared) (t u : Tok) (Q' : Value → Shared → Prop), Q' (.bool r) s → wpAny (model c.G.prog c.G.w) A (compareOp op (.int a t) (.int b u)) Q' (fun _ _ => False) s)
    (h : Q (.bool r) σ) : CmpV c op (.int a) (.int b) σ Q := by
  intro W env s A m hE hA hS hT
  obtain ⟨x, y, hx, hy, rfl⟩ := hT
  obtain ⟨t, rfl⟩ := int_of hx
  obtain ⟨u, rfl⟩ := int_of hy
  exact H A s t u _ ⟨_, σ, W, h, Le.refl W, .bool _, hS⟩
theorem Cmp_eqi {a b : Int} {Q : V → St → Prop} (h : Q (.bool (a == b)) σ) : CmpV c .Eq (.int a) (.int b) σ Q := DoG_cmp (fun _ _ _ _ _ q => PyProof.Rows.eq_int q) h
theorem Cmp_nei {a b : Int} {Q : V → St → Prop} (h : Q (.bool (a != b)) σ) : CmpV c .NotEq (.int a) (.int b) σ Q := DoG_cmp (fun _ _ _ _ _ q => PyProof.Rows.ne_int q) h
theorem Cmp_lti {a b : Int} {Q : V → St → Prop} (h : Q (.bool (decide (a < b))) σ) : CmpV c .Lt (.int a) (.int b) σ Q := DoG_cmp (fun _ _ _ _ _ q => PyProof.Rows.lt_int q) h
theorem Cmp_lei {a b : Int} {Q : V → St → Prop} (h : Q (.bool (decide (a ≤ b))) σ) : CmpV c .LtE (.int a) (.int b) σ Q := DoG_cmp (fun _ _ _ _ _ q => PyProof.Rows.le_int q) h
theorem Cmp_gti {a b : Int} {Q : V → St → Prop} (h : Q (.bool (decide (a > b))) σ) : CmpV c .Gt (.int a) (.int b) σ Q := DoG_cmp (fun _ _ _ _ _ q => PyProof.Rows.gt_int q) h
theorem Cmp_gei {a b : Int} {Q : V → St → Prop} (h : Q (.bool (decide (a ≥ b))) σ) : CmpV c .GtE (.int a) (.int b) σ Q := DoG_cmp (fun _ _ _ _ _ q => PyProof.Rows.ge_int q) h

/-! lists -/
/-- a value that is a list, frozen or of the store -/
def ListV (σ : St) (v : V) (vs : List V) : Prop := v = .lst vs ∨ ∃ i, v = .ref i ∧ σ.sto[i]? = some (.list vs)
theorem ListV.get {W : Wd} {env : Env} {s : Shared} {v : V} {vs : List V} {x : Value} (h : ListV σ v vs) (r : VR c.G.w W v x) (S : Sim c W env σ s) : ∃ a xs, x = .ref a ∧ s.heap.IsList a xs ∧ VRs c.G.w W vs xs.toList := by
  rcases h with rfl | ⟨i, rfl, e⟩
  · cases r with
    | @lst a o xs n _ e1 e2 e3 r => exact ⟨a, xs, rfl, ⟨o, by have q := S.1.at_ a; rw [e1] at q; exact q, e2, _, e3⟩, r⟩
  · cases r with
    | @ref _ a e1 =>
      have q := S.1.at_ a
      rw [e1] at q
      obtain ⟨m, o, e2, e3, e4⟩ := q
      rw [e] at e2; cases e2
      cases e4 with
      | list r => exact ⟨_, _, rfl, ⟨_, e3, rfl, _, rfl⟩, r⟩

theorem Bin_cat {a b : V} {vs ws : List V} {Q : V → St → Prop} (ha : ListV σ a vs) (hb : ListV σ b ws) (hz : vs.length + ws.length ≤ sizeLine) (h : Q (.lst (vs ++ ws)) σ) : BinV c .Add a b σ Q := by
  intro W env s A m hE hA hS hT
  obtain ⟨x, y, hx, hy, rfl⟩ := hT
  obtain ⟨l, xs, rfl, hl, rl⟩ := ha.get hx hS
  obtain ⟨b, ys, rfl, hb, rb⟩ := hb.get hy hS
  obtain ⟨⟨cls, dd, data, sl⟩, ho, hc, n, hd⟩ := id hl
  obtain ⟨⟨cls2, dd2, data2, sl2⟩, ho2, hc2, n2, hd2⟩ := id hb
  simp only at hc hd hc2 hd2
  subst hc hd hc2 hd2
  obtain ⟨S₂, l₂⟩ := hS.push (o := lstO (xs ++ ys) 0) rfl
  refine concat_meets ⟨_, ho, rfl⟩ ⟨_, ho2, rfl⟩ noFill_list_add seq_list_add PySem.F.slot_list_add PySem.F.entry_list_add (PySem.F.args_list_add_2 _ _) (list_addW l b xs ys n n2 dd dd2 sl sl2 (by rw [← Array.length_toList, ← Array.length_toList, rl.length, rb.length]; exact hz)) ⟨ho, ho2, ?_⟩
  exact ⟨.lst (vs ++ ws), σ, _, h, l₂, .lst (Wd.put_self _ _ _) rfl rfl (by rw [Array.toList_append]; exact (rl.append rb).mono l₂.q), S₂⟩

/-- a cut -/
def slc {α : Type} (xs : List α) (lo hi st : Option Int) : List α :=
  (sliceRange (sliceBounds lo hi st xs.length).1 (sliceBounds lo hi st xs.length).2.1 (sliceBounds lo hi st xs.length).2.2).filterMap (xs[·]?)
theorem VRs.pick {w : World} {W : Wd} {vs : List V} {xs : List Value} (r : VRs w W vs xs) : ∀ ks : List Nat, VRs w W (ks.filterMap (vs[·]?)) (ks.filterMap (xs[·]?))
  | [] => .nil
  | k :: ks => by
    have e := r.length
    cases hv : vs[k]? with
    | none =>
      have hx : xs[k]? = none := by rw [List.getElem?_eq_none_iff] at hv ⊢; omega
      rw [List.filterMap_cons_none hv, List.filterMap_cons_none hx]; exact r.pick ks
    | some v =>
      obtain ⟨x, hx, rx⟩ := r.get hv
      rw [List.filterMap_cons_some hv, List.filterMap_cons_some hx]; exact .cons rx (r.pick ks)
theorem slc_pick (xs : Array Value) (lo hi st : Option Int) : (slicePick xs lo hi st).toList = slc xs.toList lo hi st := by
  unfold slicePick slc
  simp
theorem VRs.slc {w : World} {W : Wd} {vs : List V} {xs : List Value} (r : VRs w W vs xs) (lo hi st : Option Int) : VRs w W (slc vs lo hi st) (slc xs lo hi st) := by
  unfold Mine.slc
  rw [r.length]
  exact r.pick _

def Part (c : Cx) (e : Option Expr) (σ : St) (Q : Option Int → St → Prop) : Prop := DoG c σ (fun _ k x => IsPart x k) (fun _ env m => m = evalPart e env) Q
theorem Part_none {Q : Option Int → St → Prop} (h : Q none σ) : Part c none σ Q := by
  intro W env s A m hE hA hS hT
  subst hT
  exact wpAny_evalPart_none ⟨none, σ, W, h, Le.refl W, .none, hS⟩
theorem Part_some {e : Expr} {Q : Option Int → St → Prop} (h : Ev c e σ fun v σ₁ => ∃ i, v = .int i ∧ Q (some i) σ₁) : Part c (some e) σ Q := by
  intro W env s A m hE hA hS hT
  subst hT
  refine wpAny_evalPart_some (seq1 h hE hA hS rfl fun v σ₁ W₁ x s₁ h₁ l₁ r₁ S₁ => ?_)
  obtain ⟨i, rfl, q⟩ := h₁
  cases r₁
  exact ⟨some i, σ₁, W₁, q, l₁, .int _ _, S₁⟩

theorem Ev_slice {value : Expr} {lo hi st : Option Expr} {p pos : Pos} {Q : V → St → Prop} (h : Ev c value σ fun a σ₁ => Part c lo σ₁ fun l σ₂ => Part c hi σ₂ fun u σ₃ => Part c st σ₃ fun k σ₄ => k ≠ some 0 ∧ ∃ vs, ListV σ₄ a vs ∧ vs.length < 1000000 ∧ Q (.lst (slc vs l u k)) σ₄) :
    Ev c (.Subscript value (.Slice lo hi st p) pos) σ Q := by
  intro W env s A m hE hA hS hT
  subst hT
  refine Subscript_ (seq1 h hE hA hS rfl fun a σ₁ W₁ x s₁ h₁ l₁ r₁ S₁ => ?_)
  refine wpAny_Slice (seq1 h₁ hE hA S₁ rfl fun l σ₂ W₂ lx s₂ h₂ l₂ r₂ S₂ => seq1 h₂ hE hA S₂ rfl fun u σ₃ W₃ ux s₃ h₃ l₃ r₃ S₃ => seq1 h₃ hE hA S₃ rfl fun k σ₄ W₄ kx s₄ h₄ l₄ r₄ S₄ => ?_)
  obtain ⟨hk, vs, hv, hz, q⟩ := h₄
  obtain ⟨S₅, l₅⟩ := S₄.push (o := { cls := .type "slice", data := .fields #[lx, ux, kx] }) rfl
  obtain ⟨b, xs, rfl, hl, rl⟩ := hv.get (r₁.mono (((l₂.trans l₃).trans l₄).trans l₅).q) S₅
  refine tail_any (T := "list") (ops := match st with | none => [.ref s₄.heap.objs.size, .ref b] | some _ => [.ref b, .ref s₄.heap.objs.size]) ⟨_, hl.choose_spec.1, hl.choose_spec.2.1⟩ slot_list_getitem.lookup ?_ (by cases st <;> rfl)
  obtain ⟨S₆, l₆⟩ := S₅.push (o := lstO (slicePick xs l u k) 0) rfl
  refine wpAny_getItem_list_slice (hsz := by rw [← Array.length_toList, rl.length, sizeLine_eq]; omega) hl (Heap.IsSliceOf.new _ _ _ _) r₂ r₃ r₄ hk ?_
  exact ⟨_, σ₄, _, q, ((((l₁.trans l₂).trans l₃).trans l₄).trans l₅).trans l₆, .lst (Wd.put_self _ _ _) rfl rfl (by rw [slc_pick]; exact (rl.slc l u k).mono l₆.q), S₆⟩

theorem seqIndex_pos {i : Int} {n : Nat} (h : 0 ≤ i) (k : i < n) : seqIndex? i n = some i.toNat := by
  unfold seqIndex?
  simp [show ¬ i < 0 by omega, h, k]
theorem seqIndex_neg {i : Int} {n : Nat} (h : i < 0) (k : -(n : Int) ≤ i) : seqIndex? i n = some (i + n).toNat := by
  unfold seqIndex?
  simp [h, show 0 ≤ i + n by omega]; omega
/-- an item of a list -/
def itemAt (vs : List V) (i : Int) : Option V := if 0 ≤ i then vs[i.toNat]? else if -(vs.length : Int) ≤ i then vs[(i + vs.length).toNat]? else none
def PlainSub (slice : Expr) : Prop := ∀ o i, ∃ ops, subscripted slice false o i = operate ops (getItem o i)
theorem plainSub (slice : Expr) : PlainSub slice := fun o i => by
  unfold subscripted
  split
  · exact ⟨_, rfl⟩
  · rename_i h; cases h
  · exact ⟨_, rfl⟩
theorem Sub_list {value slice : Expr} {a : V} {vs : List V} {i : Int} {v : V} {Q : V → St → Prop} (ha : ListV σ a vs) (hz : vs.length < 2 ^ 60) (hi : itemAt vs i = some v) (h : Q v σ) : SubV c value slice a (.int i) σ Q := by
  intro W env s A m hE hA hS hT
  obtain ⟨x, y, hx, hy, rfl⟩ := hT
  obtain ⟨l, xs, rfl, hl, rl⟩ := ha.get hx hS
  obtain ⟨t, rfl⟩ := int_of hy
  obtain ⟨ops, hs⟩ := plainSub slice (.ref l) (.int i t)
  have hlen := rl.length
  refine tail_any (T := "list") ⟨_, hl.choose_spec.1, hl.choose_spec.2.1⟩ slot_list_getitem.lookup ?_ hs
  unfold itemAt at hi
  split at hi
  · obtain ⟨x, hx, rx⟩ := rl.get hi
    have hb := (List.getElem?_eq_some_iff.mp hi).1
    exact wpAny_getItem_list hl ‹_› (by omega) (by rw [← Array.getElem?_toList]; exact hx) ⟨v, σ, W, h, Le.refl W, rx, hS⟩
  · split at hi
    · obtain ⟨x, hx, rx⟩ := rl.get hi
      have hb := (List.getElem?_eq_some_iff.mp hi).1
      rw [Array.length_toList] at hlen
      refine wpAny_getItem_list_neg hl (by omega) (by rw [hlen]; assumption) (by omega) ?_ ⟨v, σ, W, h, Le.refl W, rx, hS⟩
      rw [← Array.getElem?_toList, hlen]; exact hx
    · cases hi
theorem Sub_tup {value slice : Expr} {vs : List V} {i : Int} {v : V} {Q : V → St → Prop} (hz : vs.length < 2 ^ 60) (hi : itemAt vs i = some v) (h : Q v σ) : SubV c value slice (.tup vs) (.int i) σ Q := by
  intro W env s A m hE hA hS hT
  obtain ⟨x, y, hx, hy, rfl⟩ := hT
  obtain ⟨t, rfl⟩ := int_of hy
  cases hx with
  | @tup a xs n _ e r =>
    obtain ⟨ops, hs⟩ := plainSub slice (.ref a) (.int i t)
    have q := hS.1.at_ a
    rw [e] at q
    have hl : IsTup s.heap a xs.toList.toArray := ⟨_, q, rfl, n, by simp⟩
    have hlen := r.length
    have key : ∃ j, seqIndex? i vs.length = some j ∧ vs[j]? = some v := by
      unfold itemAt at hi
      split at hi
      · have hb := (List.getElem?_eq_some_iff.mp hi).1
        exact ⟨i.toNat, seqIndex_pos ‹_› (by omega), hi⟩
      · split at hi
        · exact ⟨_, seqIndex_neg (by omega) ‹_›, hi⟩
        · cases hi
    have hb : -(vs.length : Int) ≤ i ∧ i < vs.length := by
      unfold itemAt at hi
      split at hi
      · have hb := (List.getElem?_eq_some_iff.mp hi).1; omega
      · split at hi
        · omega
        · cases hi
    obtain ⟨j, hj, hv⟩ := key
    obtain ⟨y, hy, ry⟩ := r.get hv
    rw [Array.length_toList] at hlen
    refine tail_any (T := "tuple") hl.typeIs slot_tuple_getitem.lookup (PyProof.Rows.getItem_tuple hl (by omega) (by omega) (j := j) (x := y) ?_ ?_ ⟨v, σ, W, h, Le.refl W, ry, hS⟩) hs
    · rw [← hj]; simp [hlen]
    · simpa using hy
end
/-- a callee that a call by its name takes -/
def Kp (G : Gl) (f : Value) : Prop := ∀ h : Heap, (∀ a o, G.s0.heap.get? a = some o → h.get? a = some o) → ∃ k, (k = Keeper.frame ∨ k = Keeper.machine ∨ k = Keeper.boundFrame) ∧ Looks (model G.prog G.w) h (keeperOf f) k
theorem Kp_builtin {G : Gl} {id : String} : Kp G (.builtin id) := fun _ _ => ⟨.machine, .inr (.inl rfl), Looks.now⟩
theorem Kp_type {G : Gl} {id : String} : Kp G (.type id) := fun _ _ => ⟨.machine, .inr (.inl rfl), Looks.now⟩
theorem Kp_func {G : Gl} {a : Addr} {o : Obj} {fd : FuncData} (h : G.s0.heap.get? a = some o) (hd : o.data = .func fd) : Kp G (.ref a) := fun h' k => ⟨.frame, .inl rfl, (Looks.ld (part := none) (k _ _ h)).andThen (by rw [hd]; exact .now)⟩

section
variable {c : Cx} {σ : St}

theorem Ev_call {id : Str} {p pos : Pos} {args : List Expr} {Q : V → St → Prop} (hst : args.any isStarred = false) (hne : args ≠ [])
    (h : Ev c (.Name id p) σ fun f σ₁ => ∃ fv, f = .con fv ∧ Kp c.G fv ∧ Evs c args σ₁ fun vs σ₂ => CallV c fv vs σ₂ Q) : Ev c (.Call (.Name id p) args [] pos) σ Q := by
  intro W env s A m hE hA hS hT
  subst hT
  refine wpAny_Call_NameR (seq1 h hE hA hS rfl fun f σ₁ W₁ x s₁ h₁ l₁ r₁ S₁ => ?_)
  obtain ⟨fv, rfl, hk, h₁⟩ := h₁
  cases r₁
  have key : ∀ es : List Expr, es.any isStarred = false → ((backTo pos (starEach es env)).any (·.1)) = false := by
    intro es
    induction es with
    | nil => intro _; rfl
    | cons e es ih =>
      intro he
      rw [List.any_cons, Bool.or_eq_false_iff] at he
      have e1 : starEach (e :: es) env = (false, eval e env) :: starEach es env := by cases e <;> first | rfl | cases he.1
      rw [e1]
      show (false || (backTo pos (starEach es env)).any (·.1)) = false
      rw [ih he.2]; rfl
  refine callWith_of (P := fun h => ∀ a o, c.G.s0.heap.get? a = some o → h.get? a = some o) (by rw [key args hst]; rfl) hk ?_
  obtain ⟨e, es, rfl⟩ := List.exists_cons_of_ne_nil hne
  have he := hst
  rw [List.any_cons, Bool.or_eq_false_iff] at he
  have e1 : starEach (e :: es) env = (false, eval e env) :: starEach es env := by cases e <;> first | rfl | cases he.1
  have h₂ := h₁ W₁ env s₁ A _ hE hA S₁ ⟨pos, rfl⟩
  rw [e1] at h₂ ⊢
  refine Calls.evalArgs_plain (x := eval e env) (rest := backTo pos (starEach es env)) (wpAny_mono h₂ ?_ fun _ _ x => x.elim)
  rintro xs s₂ ⟨vs, σ₂, W₂, h₃, l₂, r₂, S₂⟩
  refine ⟨base_keeps S₂.1, seq1 h₃ hE hA S₂ ⟨xs, r₂.1, rfl⟩ fun v σ₃ W₃ z s₃ q l₃ r₃ S₃ => ⟨v, σ₃, W₃, q, (l₁.trans l₂).trans l₃, r₃, S₃⟩⟩
theorem Ev_call0 {id : Str} {p pos : Pos} {Q : V → St → Prop}
    (h : Ev c (.Name id p) σ fun f σ₁ => ∃ fv, f = .con fv ∧ Kp c.G fv ∧ CallV c fv [] σ₁ Q) : Ev c (.Call (.Name id p) [] [] pos) σ Q := by
  intro W env s A m hE hA hS hT
  subst hT
  refine wpAny_Call_NameR (seq1 h hE hA hS rfl fun f σ₁ W₁ x s₁ h₁ l₁ r₁ S₁ => ?_)
  obtain ⟨fv, rfl, hk, h₁⟩ := h₁
  cases r₁
  refine callWith_of (P := fun h => ∀ a o, c.G.s0.heap.get? a = some o → h.get? a = some o) rfl hk (evalArgs_nil3 ?_)
  refine ⟨base_keeps S₁.1, seq1 h₁ hE hA S₁ ⟨[], .nil, rfl⟩ fun v σ₃ W₃ z s₃ q l₃ r₃ S₃ => ⟨v, σ₃, W₃, q, l₁.trans l₃, r₃, S₃⟩⟩

/-! built-ins -/
theorem one_of {w : World} {W : Wd} {v : V} {xs : List Value} (h : VRs w W [v] xs) : ∃ x, xs = [x] ∧ VR w W v x := by
  cases h with
  | cons a b => cases b; exact ⟨_, rfl, a⟩
theorem two_of {w : World} {W : Wd} {v u : V} {xs : List Value} (h : VRs w W [v, u] xs) : ∃ x y, xs = [x, y] ∧ VR w W v x ∧ VR w W u y := by
  cases h with
  | cons a b => obtain ⟨y, rfl, r⟩ := one_of b; exact ⟨_, _, rfl, a, r⟩
theorem three_of {w : World} {W : Wd} {v u t : V} {xs : List Value} (h : VRs w W [v, u, t] xs) : ∃ x y z, xs = [x, y, z] ∧ VR w W v x ∧ VR w W u y ∧ VR w W t z := by
  cases h with
  | cons a b => obtain ⟨y, z, rfl, r, r'⟩ := two_of b; exact ⟨_, _, _, rfl, a, r, r'⟩

theorem ints_items {w : World} {W : Wd} : ∀ {ns : List Int} {xs : List Value}, VRs w W (ns.map V.int) xs → ∃ ps : List (Int × Tok), xs = ps.map (fun p => Value.int p.1 p.2) ∧ ps.map (·.1) = ns
  | [], _, .nil => ⟨[], rfl, rfl⟩
  | n :: ns, _, .cons a b => by
    obtain ⟨t, rfl⟩ := int_of a
    obtain ⟨ps, rfl, rfl⟩ := ints_items b
    exact ⟨(n, t) :: ps, rfl, rfl⟩
theorem preSum_list (ps : List (Int × Tok)) : preSum (numAt ps.toArray) ps.toArray.size = (ps.map (·.1)).sum := by
  have key : ∀ k, k ≤ ps.length → preSum (numAt ps.toArray) k = ((ps.take k).map (·.1)).sum := by
    intro k
    induction k with
    | zero => intro _; rfl
    | succ k ih =>
      intro hk
      rw [preSum, ih (by omega), List.take_add_one, List.map_append, List.sum_append]
      congr 1
      unfold numAt
      simp [List.getElem?_eq_getElem (show k < ps.length by omega)]
  have := key ps.length (Nat.le_refl _)
  rw [List.take_length] at this
  simpa using this
theorem Call_sum {a : V} {ns : List Int} {Q : V → St → Prop} (ha : ListV σ a (ns.map V.int)) (h : Q (.int ns.sum) σ) : CallV c (.builtin "sum") [a] σ Q := by
  intro W env s A m hE hA hS hT
  obtain ⟨xs, hx, rfl⟩ := hT
  obtain ⟨x, rfl, r⟩ := one_of hx
  obtain ⟨l, xs, rfl, hl, rl⟩ := ha.get r hS
  obtain ⟨ps, e1, rfl⟩ := ints_items rl
  have e2 : xs = intItems ps.toArray := by
    apply Array.toList_inj.mp
    rw [e1]; simp [intItems]
  subst e2
  refine sum_intListG hA.1 hl fun h' tk t' hk => ⟨_, σ, W, h, Le.refl W, ?_, hS.keeps hk⟩
  rw [preSum_list]
  exact .int _ _
theorem Call_len {a : V} {vs : List V} {Q : V → St → Prop} (ha : ListV σ a vs) (hz : vs.length < 2 ^ 60) (h : Q (.int vs.length) σ) : CallV c (.builtin "len") [a] σ Q := by
  intro W env s A m hE hA hS hT
  obtain ⟨xs, hx, rfl⟩ := hT
  obtain ⟨x, rfl, r⟩ := one_of hx
  obtain ⟨l, xs, rfl, hl, rl⟩ := ha.get r hS
  have hlen := rl.length
  rw [Array.length_toList] at hlen
  refine Calls.call_len_list hl (by omega) ?_
  rw [hlen]
  exact ⟨_, σ, W, h, Le.refl W, .int _ _, hS.toks.toks⟩
theorem Call_range1 {n : Int} {Q : V → St → Prop} (h : Q (.rng 0 n 1) σ) : CallV c (.type "range") [.int n] σ Q := by
  intro W env s A m hE hA hS hT
  obtain ⟨xs, hx, rfl⟩ := hT
  obtain ⟨x, rfl, r⟩ := one_of hx
  obtain ⟨t, rfl⟩ := int_of r
  obtain ⟨S₂, l₂⟩ := hS.push (o := rngO 0 n 1 s.toks t (s.toks + 1)) rfl
  exact call_range_1 ⟨_, σ, _, h, l₂, .rng (Wd.put_self _ _ _), S₂.toks⟩
theorem Call_range2 {a b : Int} {Q : V → St → Prop} (h : Q (.rng a b 1) σ) : CallV c (.type "range") [.int a, .int b] σ Q := by
  intro W env s A m hE hA hS hT
  obtain ⟨xs, hx, rfl⟩ := hT
  obtain ⟨x, y, rfl, r, r'⟩ := two_of hx
  obtain ⟨t, rfl⟩ := int_of r
  obtain ⟨u, rfl⟩ := int_of r'
  obtain ⟨S₂, l₂⟩ := hS.push (o := rngO a b 1 t u s.toks) rfl
  exact call_range_2 ⟨_, σ, _, h, l₂, .rng (Wd.put_self _ _ _), S₂.toks⟩
theorem Call_range3 {a b d : Int} {Q : V → St → Prop} (hd : d ≠ 0) (hs : d.natAbs < 2 ^ 64) (h : Q (.rng a b d) σ) : CallV c (.type "range") [.int a, .int b, .int d] σ Q := by
  intro W env s A m hE hA hS hT
  obtain ⟨xs, hx, rfl⟩ := hT
  obtain ⟨x, y, z, rfl, r, r', r''⟩ := three_of hx
  obtain ⟨t, rfl⟩ := int_of r
  obtain ⟨u, rfl⟩ := int_of r'
  obtain ⟨v, rfl⟩ := int_of r''
  obtain ⟨S₂, l₂⟩ := hS.push (o := rngO a b d t u v) rfl
  exact call_range_3 (hp := .inl (noPyl hs)) hd ⟨_, σ, _, h, l₂, .rng (Wd.put_self _ _ _), S₂.toks⟩
/-- list(..) of a list: a frozen copy -/
theorem Call_list {a : V} {vs : List V} {Q : V → St → Prop} (ha : ListV σ a vs) (hz : vs.length < 1000000) (h : Q (.lst vs) σ) : CallV c (.type "list") [a] σ Q := by
  intro W env s A m hE hA hS hT
  obtain ⟨xs, hx, rfl⟩ := hT
  obtain ⟨x, rfl, r⟩ := one_of hx
  obtain ⟨l, xs, rfl, ⟨o, ho, hc, n, hd⟩, rl⟩ := ha.get r hS
  refine call_list_seq l (.inl rfl) ho hc hd (fun h' c' hk hn => ?_) (by rw [← Array.length_toList, rl.length, sizeLine_eq]; omega)
  have S₂ : Sim c W env σ { s with heap := h' } := hS.keeps (tk := s.toks) hk
  have ho : W s.heap.objs.size = .out := hS.1.out (fresh_none _ (Nat.le_refl _))
  exact ⟨_, σ, _, h, Le.put ho, .lst (Wd.put_self _ _ _) rfl rfl (rl.mono (Le.put ho).q), S₂.froz ho hn⟩
/-- list(..) of a list: a place of the store -/
theorem Call_listC {loc : List (Str × V)} {sto : List MO} {a : V} {vs : List V} {Q : V → St → Prop} (ha : ListV ⟨loc, sto⟩ a vs) (hz : vs.length < 1000000) (h : Q (.ref sto.length) ⟨loc, sto ++ [.list vs]⟩) : CallV c (.type "list") [a] ⟨loc, sto⟩ Q := by
  intro W env s A m hE hA hS hT
  obtain ⟨xs, hx, rfl⟩ := hT
  obtain ⟨x, rfl, r⟩ := one_of hx
  obtain ⟨l, xs, rfl, ⟨o, ho, hc, n, hd⟩, rl⟩ := ha.get r hS
  refine call_list_seq l (.inl rfl) ho hc hd (fun h' c' hk hn => ?_) (by rw [← Array.length_toList, rl.length, sizeLine_eq]; omega)
  have S₂ : Sim c W env ⟨loc, sto⟩ { s with heap := h' } := hS.keeps (tk := s.toks) hk
  have ho : W s.heap.objs.size = .out := hS.1.out (fresh_none _ (Nat.le_refl _))
  exact ⟨_, _, _, h, Le.put ho, .ref (Wd.put_self _ _ _), S₂.cell hS.1.top ho hn (.list rl)⟩
theorem Call_min {a b : Int} {Q : V → St → Prop} (h : Q (.int (min a b)) σ) : CallV c (.builtin "min") [.int a, .int b] σ Q := by
  intro W env s A m hE hA hS hT
  obtain ⟨xs, hx, rfl⟩ := hT
  obtain ⟨x, y, rfl, r, r'⟩ := two_of hx
  obtain ⟨t, rfl⟩ := int_of r
  obtain ⟨u, rfl⟩ := int_of r'
  refine min_two_ints hA.1 fun h' tk hk => ⟨_, σ, W, h, Le.refl W, ?_, hS.keeps hk⟩
  by_cases e : b < a
  · rw [if_pos e, Int.min_def, if_neg (by omega)]; exact .int _ _
  · rw [if_neg e, Int.min_def, if_pos (by omega)]; exact .int _ _

/-! a list of the store grows -/
theorem append_meth {env : Env} {A : Around} {s : Shared} {W : Wd} {loc : List (Str × V)} {sto : List MO} {i : Nat} {vs : List V} {v : V} {a : Addr} {x : Value} {Q : Value → Shared → Prop} {E : Value → Shared → Prop}
    (hS : Sim c W env ⟨loc, sto⟩ s) (ha : W a = .cell i) (hv : sto[i]? = some (.list vs)) (hz : vs.length < 1000000) (r : VR c.G.w W v x)
    (h : ∀ s', Sim c W env ⟨loc, sto.set i (.list (vs ++ [v]))⟩ s' → Q .none s') : wpAny (model c.G.prog c.G.w) A (call (.builtin "list.append") [.ref a, x]) Q E s := by
  have q := hS.1.at_ a
  rw [ha] at q
  obtain ⟨m, o, e1, e2, e3⟩ := q
  rw [hv] at e1; cases e1
  cases e3 with
  | @list _ xs n rl =>
    refine wpAny_list_append_plain ⟨n, e2⟩ (fun h' hp hs => h _ ?_) (by rw [← Array.length_toList, rl.length, sizeLine_eq]; omega)
    obtain ⟨n', e⟩ := hp
    exact hS.set (tk := s.toks) ha hs e (.list (by rw [Array.toList_push]; exact rl.append (.one r)))
end
def unowned (n : String) : Bool := !(["enumerate", "zip", "dict_itemiterator", "dict_reverseitemiterator", "odict_iterator", "itertools.zip_longest", "itertools.pairwise"] : List String).contains n

/-! dictionaries of the store whose keys are ints -/
def ikv (es : List (Int × V)) : List (V × V) := es.map fun p => (.int p.1, p.2)
def dput (es : List (Int × V)) (k : Int) (v : V) : List (Int × V) := if es.any (fun p => p.1 = k) then es.map (fun p => if p.1 = k then (p.1, v) else p) else es ++ [(k, v)]
inductive IV (w : World) (W : Wd) : List (Int × V) → List (Int × Value) → Prop
  | nil : IV w W [] []
  | cons {k : Int} {v : V} {x : Value} {l : List (Int × V)} {m : List (Int × Value)} : VR w W v x → IV w W l m → IV w W ((k, v) :: l) ((k, x) :: m)
def IKeys (es : List DictEntry) : Prop := ∀ e ∈ es, ∃ k, Value.isInt k e.key = true ∧ e.hash = hashInt k
theorem drs_iv {prog : Program} {w : World} {W : Wd} : ∀ {es : List (Int × V)} {ents : List DictEntry}, DRs w W (ikv es) ents → ∃ kvs, IV w W es kvs ∧ Pairs (intKind prog w) ents kvs ∧ IKeys ents
  | [], _, h => by cases h; exact ⟨[], .nil, .nil, fun _ h => nomatch h⟩
  | (k, v) :: es, _, h => by
    cases h with
    | @int _ t _ x _ ents' r rs =>
      obtain ⟨kvs, h1, h2, h3⟩ := drs_iv (prog := prog) rs
      refine ⟨(k, x) :: kvs, .cons r h1, .cons (by simp [intKind, Value.isInt]) rfl h2, fun e he => ?_⟩
      rcases List.mem_cons.mp he with rfl | he
      · exact ⟨k, by simp [Value.isInt], rfl⟩
      · exact h3 e he
theorem iv_drs {prog : Program} {w : World} {W : Wd} : ∀ {es : List (Int × V)} {kvs : List (Int × Value)} {ents : List DictEntry}, IV w W es kvs → Pairs (intKind prog w) ents kvs → IKeys ents → DRs w W (ikv es) ents
  | _, _, _, .nil, .nil, _ => .nil
  | _, _, _, .cons r rs, @Pairs.cons _ _ _ _ _ e _ es _ a b c, hk => by
    obtain ⟨t, ht⟩ := Value.isInt_shape (a : Value.isInt _ e.key = true)
    obtain ⟨k', h1, h2⟩ := hk e (.head _)
    rw [ht] at h1
    have hkk : k' = _ := Value.isInt_inj _ _ _ h1 (ht ▸ a)
    subst hkk
    obtain ⟨hash, key, val⟩ := e
    dsimp only at ht h2 b
    subst ht h2 b
    exact .int r (iv_drs rs c fun e he => hk e (.tail _ he))
theorem IV.keys {w : World} {W : Wd} : ∀ {es : List (Int × V)} {kvs : List (Int × Value)}, IV w W es kvs → kvs.map (·.1) = es.map (·.1)
  | _, _, .nil => rfl
  | _, _, .cons _ b => by rw [List.map_cons, List.map_cons, b.keys]
theorem IV.append {w : World} {W : Wd} {k : Int} {v : V} {x : Value} (r : VR w W v x) : ∀ {es : List (Int × V)} {kvs : List (Int × Value)}, IV w W es kvs → IV w W (es ++ [(k, v)]) (kvs ++ [(k, x)])
  | _, _, .nil => .cons r .nil
  | _, _, .cons a b => .cons a (b.append r)
theorem IV.over {w : World} {W : Wd} {k : Int} {v : V} {x : Value} (r : VR w W v x) : ∀ {es : List (Int × V)} {kvs : List (Int × Value)}, IV w W es kvs → IV w W (es.map fun p => if p.1 = k then (p.1, v) else p) (kvs.map fun p => if p.1 = k then (p.1, x) else p)
  | _, _, .nil => .nil
  | _, _, @IV.cons _ _ j _ _ _ _ a b => by
    rw [List.map_cons, List.map_cons]
    by_cases h : j = k
    · rw [if_pos h, if_pos h]; exact .cons r (b.over r)
    · rw [if_neg h, if_neg h]; exact .cons a (b.over r)
theorem IV.any {w : World} {W : Wd} {k : Int} : ∀ {es : List (Int × V)} {kvs : List (Int × Value)}, IV w W es kvs → (kvs.any fun p => p.1 = k) = es.any fun p => p.1 = k
  | _, _, .nil => rfl
  | _, _, .cons _ b => by rw [List.any_cons, List.any_cons, b.any]
theorem IV.stored {w : World} {W : Wd} {k : Int} {v : V} {x : Value} (r : VR w W v x) {es : List (Int × V)} {kvs : List (Int × Value)} (h : IV w W es kvs) : IV w W (dput es k v) (stored kvs k x) := by
  unfold dput PySem.stored
  rw [h.any]
  split
  · exact h.over r
  · exact h.append r
theorem IV.length {w : World} {W : Wd} : ∀ {es : List (Int × V)} {kvs : List (Int × Value)}, IV w W es kvs → kvs.length = es.length
  | _, _, .nil => rfl
  | _, _, .cons _ b => by rw [List.length_cons, List.length_cons, b.length]

/-- what an iterator walks: frozen items, or a list of the store -/
inductive ISrc where
  | seq (vs : List V)
  | cell (i : Nat)
inductive ItAt (w : World) (W : Wd) (h : Heap) (I : Addr) : ISrc → Nat → Prop
  | lst {a : Addr} {o : Obj} {xs : Array Value} {n : Nat} {vs : List V} {k : Nat} : W a = .froz o → o.cls = .type "list" → o.data = .seq xs n → VRs w W vs xs.toList → h.IsListIter I a k → ItAt w W h I (.seq vs) k
  | tup {a : Addr} {xs : Array Value} {n : Nat} {vs : List V} {k : Nat} : W a = .froz (tupO xs n) → VRs w W vs xs.toList → (∃ o, h.get? I = some o ∧ o.cls = .type "tuple_iterator" ∧ o.data = .fields #[.ref a, .int k 0]) → ItAt w W h I (.seq vs) k
  | rng {a d : Int} {n k : Nat} : k ≤ n → IsRangeIter h I (a + (k : Int) * d) ((n : Int) - k) d → ItAt w W h I (.seq ((List.range n).map fun (k : Nat) => V.int (a + (k : Int) * d))) k
  | cell {a : Addr} {i k : Nat} : W a = .cell i → h.IsListIter I a k → ItAt w W h I (.cell i) k
  | dct {a : Addr} {ents : Array DictEntry} {n k : Nat} {es : List (Int × V)} : W a = .froz (dctO ents n) → 1 < a → DRs w W (ikv es) ents.toList → (es.map (·.1)).Nodup → h.IsKeyIter I a k es.length n → ItAt w W h I (.seq (es.map fun p => V.int p.1)) k
def Items (sto : List MO) : ISrc → List V → Prop
  | .seq us, vs => us = vs
  | .cell i, vs => sto[i]? = some (.list vs)
/-- an iterator's object -/
def ItOb (o : Obj) : Prop := ∃ n, o.cls = .type n ∧ unowned n = true ∧ ∀ v, o.data ≠ .cell v

theorem let_go {M : Model} {A : Around} {s : Shared} {E : Value → Shared → Prop} {Q : Unit → Shared → Prop} {target : Expr} {I : Addr} {v : Value} {o : Obj} {n : String} (ho : s.heap.get? I = some o) (hc : o.cls = .type n) (hn : unowned n = true) (h : Q () s) :
    wpAny M A (letOwnedTupleGo target (.ref I) v) Q E s := by
  have hn' : (["enumerate", "zip", "dict_itemiterator", "dict_reverseitemiterator", "odict_iterator", "itertools.zip_longest", "itertools.pairwise"] : List String).contains n = false := by
    unfold unowned at hn; exact Bool.not_eq_true' _ |>.mp hn
  unfold letOwnedTupleGo
  split
  · cases v with
    | ref a =>
      refine wpAny_bind (wpAny_load ho ?_)
      simp only [hc]
      split
      · rename_i m vs e1 e2
        cases e1
        rw [hn']
        exact wpAny_pure h
      · exact wpAny_pure h
    | _ => exact wpAny_pure h
  · cases v with
    | ref a =>
      refine wpAny_bind (wpAny_load ho ?_)
      simp only [hc]
      split
      · rename_i m vs e1 e2
        cases e1
        rw [hn']
        exact wpAny_pure h
      · exact wpAny_pure h
    | _ => exact wpAny_pure h
  · exact wpAny_pure h

section
variable {c : Cx}

theorem Leq.turn {W : Wd} {a : Addr} {o o' : Obj} (h : W a = .prot o) : Leq W (W.put a (.prot o')) := by
  refine ⟨fun b x e => ?_, fun b x e => ?_⟩
  · rw [Wd.put_ne]
    · exact e
    · rintro rfl; rw [h] at e; cases e
  · rw [Wd.put_ne]
    · exact e
    · rintro rfl; rw [h] at e; cases e
/-- a guarded object turns -/
theorem SimG.turn {G : Gl} {W : Wd} {sto : List MO} {s : Shared} {a : Addr} {o o' : Obj} {h' : Heap} {tk : Nat} (S : SimG G W sto s) (h : W a = .prot o) (hs : ∀ b x, b ≠ a → s.heap.get? b = some x → h'.get? b = some x) (e : h'.get? a = some o') : SimG G (W.put a (.prot o')) sto { s with heap := h', toks := tk } := by
  have q : Leq W (W.put a (.prot o')) := Leq.turn h
  refine ⟨let ⟨_, _, e⟩ := S.sh; ⟨h', tk, by rw [e]⟩, fun b x k => q.1 b x (S.base b x k), fun b => ?_, fun x y i hx hy => ?_, low_put (fun _ e => nomatch e) S.low⟩
  · by_cases hb : b = a
    · subst hb; rw [Wd.put_self]; exact e
    · rw [Wd.put_ne W _ hb]
      exact (S.at_ b).mono q fun o x => hs b o hb x
  · have key : ∀ z, W.put a (.prot o') z = .cell i → W z = .cell i := fun z hz => by
      by_cases hz' : z = a
      · subst hz'; rw [Wd.put_self] at hz; cases hz
      · rw [Wd.put_ne W _ hz'] at hz; exact hz
    exact S.inj x y i (key x hx) (key y hy)
/-- a guarded object is let go -/
theorem SimG.drop {G : Gl} {W : Wd} {sto : List MO} {s : Shared} {a : Addr} {o : Obj} {h' : Heap} {tk : Nat} (S : SimG G W sto s) (h : W a = .prot o) (hs : ∀ b x, b ≠ a → s.heap.get? b = some x → h'.get? b = some x) : SimG G (W.put a .out) sto { s with heap := h', toks := tk } := by
  have q : Leq W (W.put a .out) := by
    refine ⟨fun b x e => ?_, fun b x e => ?_⟩
    · rw [Wd.put_ne]
      · exact e
      · rintro rfl; rw [h] at e; cases e
    · rw [Wd.put_ne]
      · exact e
      · rintro rfl; rw [h] at e; cases e
  refine ⟨let ⟨_, _, e⟩ := S.sh; ⟨h', tk, by rw [e]⟩, fun b x k => q.1 b x (S.base b x k), fun b => ?_, fun x y i hx hy => ?_, low_put (fun _ e => nomatch e) S.low⟩
  · by_cases hb : b = a
    · subst hb; rw [Wd.put_self]; exact trivial
    · rw [Wd.put_ne W _ hb]
      exact (S.at_ b).mono q fun o x => hs b o hb x
  · have key : ∀ z, W.put a .out z = .cell i → W z = .cell i := fun z hz => by
      by_cases hz' : z = a
      · subst hz'; rw [Wd.put_self] at hz; cases hz
      · rw [Wd.put_ne W _ hz'] at hz; exact hz
    exact S.inj x y i (key x hx) (key y hy)
/-- .. one that no frame holds -/
theorem LR.turn {w : World} {W : Wd} {own : Bool} {env : Env} {l : List (Str × V)} {h h' : Heap} {a : Addr} {o : Obj} {ro : Role} (r : LR w W own env l h) (ha : W a = .prot o) (hn : ∀ b vo, h.IsCell b vo → b ≠ a)
    (hs : ∀ b x, b ≠ a → h.get? b = some x → h'.get? b = some x) : LR w (W.put a ro) own env l h' := by
  obtain ⟨⟨m, hm, hl⟩, r2, r3, r4, r5, r6⟩ := r
  have q : Leq W (W.put a ro) := by
    refine ⟨fun b x e => ?_, fun b x e => ?_⟩
    · rw [Wd.put_ne]
      · exact e
      · rintro rfl; rw [ha] at e; cases e
    · rw [Wd.put_ne]
      · exact e
      · rintro rfl; rw [ha] at e; cases e
  refine ⟨⟨m, ?_, fun x v e1 e2 => let ⟨v', p, q'⟩ := hl x v e1 e2; ⟨v', p, q'.mono q⟩⟩, ?_, fun x e => ?_, r4, r5, fun x b e => ?_⟩
  · obtain ⟨o, es, ep, b, d⟩ := hm
    exact ⟨o, es, ep, hs _ _ (by rintro e; rw [e] at r2; rw [ha] at r2; cases r2) b, d⟩
  · rw [Wd.put_ne]; exact r2; rintro e; rw [e] at r2; rw [ha] at r2; cases r2
  · obtain ⟨b, vo, e1, e2, e3, e4⟩ := r3 x e
    have hb := hn b vo e2
    refine ⟨b, vo, e1, let ⟨o, f, g⟩ := e2; ⟨o, hs _ _ hb f, g⟩, ?_, fun v e => let ⟨v', p, q'⟩ := e4 v e; ⟨v', p, q'.mono q⟩⟩
    unfold CellRole at e3 ⊢
    rw [Wd.put_ne W _ hb]; exact e3
  · obtain ⟨⟨vo, e2⟩, e3⟩ := r6 x b e
    have hb := hn b vo e2
    refine ⟨⟨vo, let ⟨o, f, g⟩ := e2; ⟨o, hs _ _ hb f, g⟩⟩, ?_⟩
    unfold CellRole at e3 ⊢
    rw [Wd.put_ne W _ hb]; exact e3

theorem SimG.prot {G : Gl} {W : Wd} {sto : List MO} {s : Shared} {a : Addr} {o : Obj} (S : SimG G W sto s) (h : W a = .out) (e : s.heap.get? a = some o) : SimG G (W.put a (.prot o)) sto s := by
  have L : Le W (W.put a (.prot o)) := Le.put h
  refine ⟨S.sh, fun b o' k => L.q.1 b o' (S.base b o' k), fun b => ?_, fun x y i hx hy => ?_, low_put (fun _ e => nomatch e) S.low⟩
  · by_cases hb : b = a
    · subst hb; rw [Wd.put_self]; exact e
    · rw [Wd.put_ne W _ hb]; exact (S.at_ b).mono L.q fun _ x => x
  · have key : ∀ z, W.put a (.prot o) z = .cell i → W z = .cell i := fun z hz => by
      by_cases hz' : z = a
      · subst hz'; rw [Wd.put_self] at hz; cases hz
      · rw [Wd.put_ne W _ hz'] at hz; exact hz
    exact S.inj x y i (key x hx) (key y hy)
theorem Sim.prot {env : Env} {W : Wd} {σ : St} {s : Shared} {a : Addr} {o : Obj} (S : Sim c W env σ s) (h : W a = .out) (e : s.heap.get? a = some o) : Sim c (W.put a (.prot o)) env σ s :=
  ⟨S.1.prot h e, S.2.le (Le.put h) fun _ _ e => e⟩

/-- what a for loop walks -/
inductive Src (σ : St) : V → ISrc → Prop
  | lst (vs : List V) : Src σ (.lst vs) (.seq vs)
  | tup (vs : List V) : Src σ (.tup vs) (.seq vs)
  | rng {a b d : Int} {n : Nat} (hs : Builtin.Range.small a b d = true) (hn : Builtin.Range.rangeSize a b d = n) : Src σ (.rng a b d) (.seq ((List.range n).map fun (k : Nat) => V.int (a + (k : Int) * d)))
  | cell {i : Nat} {vs : List V} (h : σ.sto[i]? = some (.list vs)) : Src σ (.ref i) (.cell i)
  | dct {es : List (Int × V)} (h : (es.map (·.1)).Nodup) : Src σ (.dct (ikv es)) (.seq (es.map fun p => V.int p.1))

theorem ItAt.mono {w : World} {W W' : Wd} {h h' : Heap} {I : Addr} {src : ISrc} {k : Nat} (q : Leq W W') (e : ∀ o, h.get? I = some o → h'.get? I = some o) (x : ItAt w W h I src k) : ItAt w W' h' I src k := by
  cases x with
  | lst a b c r f => exact .lst (q.1 _ _ a) b c (r.mono q) (f.at e)
  | tup a r f => exact .tup (q.1 _ _ a) (r.mono q) (let ⟨o, f, g⟩ := f; ⟨o, e _ f, g⟩)
  | rng a f => exact .rng a (e _ f)
  | cell a f => exact .cell (q.2 _ _ a) (f.at e)
  | dct a lo r hn f => exact .dct (q.1 _ _ a) lo (r.mono q) hn (f.at e)
theorem ItAt.ob {w : World} {W : Wd} {h : Heap} {I : Addr} {src : ISrc} {k : Nat} (x : ItAt w W h I src k) : ∃ o, h.get? I = some o ∧ ItOb o := by
  cases x with
  | lst a b c r f => obtain ⟨o, f, g, g'⟩ := f; exact ⟨o, f, _, g, by decide, fun v e => by rw [g'] at e; cases e⟩
  | tup a r f => obtain ⟨o, f, g, g'⟩ := f; exact ⟨o, f, _, g, by decide, fun v e => by rw [g'] at e; cases e⟩
  | rng a f => exact ⟨_, f, _, rfl, by decide, fun v e => by cases e⟩
  | cell a f => obtain ⟨o, f, g, g'⟩ := f; exact ⟨o, f, _, g, by decide, fun v e => by rw [g'] at e; cases e⟩
  | dct a lo r hn f => obtain ⟨o, f, g, g'⟩ := f; exact ⟨o, f, _, g, by decide, fun v e => by rw [g'] at e; cases e⟩

theorem Src.iter {W : Wd} {env : Env} {σ : St} {s : Shared} {A : Around} {a : V} {src : ISrc} {x : Value} {Q : Value → Shared → Prop} {E : Value → Shared → Prop} (r : Src σ a src) (hx : VR c.G.w W a x) (S : Sim c W env σ s)
    (h : ∀ I s', ItAt c.G.w W s'.heap I src 0 → W I = .out → s.heap.get? I = none → (∀ b o, s.heap.get? b = some o → s'.heap.get? b = some o) → Sim c W env σ s' → Q (.ref I) s') : wpAny (model c.G.prog c.G.w) A (pyIter x) Q E s := by
  have hn := fresh_none s.heap (Nat.le_refl _)
  have hout : W s.heap.objs.size = .out := S.1.out hn
  have hk : ∀ o b o', s.heap.get? b = some o' → (s.heap.push o).get? b = some o' := fun o b o' e => Heap.get?_push_of_some _ e
  cases r with
  | lst vs =>
    cases hx with
    | @lst a o xs n _ e1 e2 e3 r =>
      have hl : s.heap.IsList a xs := ⟨o, by have q := S.1.at_ a; rw [e1] at q; exact q, e2, n, e3⟩
      exact wpAny_pyIter_list hl (h _ _ (.lst e1 e2 e3 r ⟨_, Heap.get?_push_size _ rfl, rfl, rfl⟩) hout hn (hk _) (S.keeps (tk := s.toks) (hk _)))
  | tup vs =>
    cases hx with
    | @tup a xs n _ e1 r =>
      have hl : s.heap.IsTuple a xs := ⟨_, by have q := S.1.at_ a; rw [e1] at q; exact q, rfl, n, rfl⟩
      exact wpAny_pyIter_tuple hl (h _ _ (.tup e1 r ⟨_, Heap.get?_push_size _ rfl, rfl, rfl⟩) hout hn (hk _) (S.keeps (tk := s.toks) (hk _)))
  | @rng a b d n hs hN =>
    cases hx with
    | @rng r _ _ _ t u v e1 =>
      have q := S.1.at_ r
      rw [e1] at q
      refine wpAny_pyIter_range (r := r) q hs (h _ _ (.rng (Nat.zero_le _) ?_) hout hn (hk _) (S.keeps (tk := s.toks) (hk _)))
      rw [hN]
      simpa using Heap.get?_push_size s.heap (o := { cls := .type "range_iterator", data := .fields #[rawInt a, rawInt n, rawInt d] }) rfl
  | @cell i vs e =>
    cases hx with
    | @ref _ a e1 =>
      have q := S.1.at_ a
      rw [e1] at q
      obtain ⟨m, o, e2, e3, e4⟩ := q
      rw [e] at e2; cases e2
      cases e4 with
      | list r =>
        exact wpAny_pyIter_list ⟨_, e3, rfl, _, rfl⟩ (h _ _ (.cell e1 ⟨_, Heap.get?_push_size _ rfl, rfl, rfl⟩) hout hn (hk _) (S.keeps (tk := s.toks) (hk _)))
  | @dct es hnd =>
    cases hx with
    | @dct a ents n _ e1 lo r =>
      have q := S.1.at_ a
      rw [e1] at q
      obtain ⟨kvs, h1, h2, h3⟩ := drs_iv (prog := c.G.prog) r
      have hat : s.heap.DictAt (intKind c.G.prog c.G.w) a kvs n := ⟨_, ents, q, ⟨rfl, rfl, rfl⟩, rfl, fun e he => h3 e (Array.mem_toList_iff.mpr he), h2, by rw [h1.keys]; exact hnd⟩
      refine wpAny_pyIter_dict (by rw [beq_eq_false_iff_ne]; exact Nat.ne_of_gt lo) hat (h _ _ (.dct e1 lo r hnd ?_) hout hn (hk _) (S.keeps (tk := s.toks) (hk _)))
      rw [← h1.length]
      exact ⟨_, Heap.get?_push_size _ rfl, rfl, rfl⟩

theorem ItAt.next {G : Gl} {W : Wd} {s : Shared} {sto : List MO} {A : Around} {I : Addr} {src : ISrc} {k : Nat} {vs : List V} {Q : Option Value → Shared → Prop} {E : Value → Shared → Prop} (It : ItAt G.w W s.heap I src k) (S : SimG G W sto s) (hI : (∃ o, W I = .prot o) ∨ W I = .out) (hA : A.handled = none) (hv : Items sto src vs)
    (h1 : ∀ v x h' tk, vs[k]? = some v → VR G.w W v x → (∀ b o, b ≠ I → s.heap.get? b = some o → h'.get? b = some o) → ItAt G.w W h' I src (k + 1) → Q (some x) { s with heap := h', toks := tk })
    (h2 : ∀ h' tk, vs.length ≤ k → (∀ b o, b ≠ I → s.heap.get? b = some o → h'.get? b = some o) → Q none { s with heap := h', toks := tk }) : wpAny (model G.prog G.w) A (pyNext (.ref I)) Q E s := by
  have ne : ∀ {a : Addr}, (∃ o, W a = .froz o) ∨ (∃ i, W a = .cell i) → a ≠ I := by
    rintro a h rfl
    rcases hI with ⟨o, e⟩ | e <;> rcases h with ⟨_, f⟩ | ⟨_, f⟩ <;> rw [e] at f <;> cases f
  have lists : ∀ {a : Addr} {xs : Array Value}, a ≠ I → s.heap.IsList a xs → s.heap.IsListIter I a k → VRs G.w W vs xs.toList → (∀ h' : Heap, h'.IsListIter I a (k + 1) → ItAt G.w W h' I src (k + 1)) → wpAny (model G.prog G.w) A (pyNext (.ref I)) Q E s := by
    intro a xs hne hl hi r hit
    have hlen := r.length
    rw [Array.length_toList] at hlen
    cases hx : xs[k]? with
    | none =>
      refine wpAny_pyNext_list_end hA hi hl hx fun h' he => h2 h' s.toks ?_ fun b o hb e => he b o hb e
      rw [Array.getElem?_eq_none_iff] at hx; omega
    | some x =>
      have hx' : xs.toList[k]? = some x := by rw [Array.getElem?_toList]; exact hx
      have hb := (List.getElem?_eq_some_iff.mp hx').1
      rw [r.length] at hb
      obtain ⟨y, hy, ry⟩ := r.get (List.getElem?_eq_getElem hb)
      rw [hx'] at hy; cases hy
      refine wpAny_pyNext_list_item hi hl hx fun h' hi' hs => h1 _ x h' s.toks (List.getElem?_eq_getElem hb) ry (fun b o hb e => hs.extBut b o hb e) (hit h' hi')
  cases It with
  | @lst a o xs n us _ e1 e2 e3 r f =>
    have hv' : us = vs := hv
    subst hv'
    exact lists (ne (.inl ⟨_, e1⟩)) ⟨o, by have q := S.at_ a; rw [e1] at q; exact q, e2, n, e3⟩ f r fun h' e => .lst e1 e2 e3 r e
  | @cell a i _ e1 f =>
    have q := S.at_ a
    rw [e1] at q
    obtain ⟨m, o, e2, e3, e4⟩ := q
    rw [show sto[i]? = some (.list vs) from hv] at e2; cases e2
    cases e4 with
    | list r => exact lists (ne (.inr ⟨_, e1⟩)) ⟨_, e3, rfl, _, rfl⟩ f r fun h' e => .cell e1 e
  | @tup a xs n us _ e1 r f =>
    have hv' : us = vs := hv
    subst hv'
    have hl : s.heap.IsTuple a xs := ⟨_, by have q := S.at_ a; rw [e1] at q; exact q, rfl, n, rfl⟩
    have hlen := r.length
    rw [Array.length_toList] at hlen
    cases hx : xs[k]? with
    | none =>
      refine wpAny_pyNext_tuple_end hA f hl hx fun h' he => h2 h' s.toks ?_ fun b o hb e => he b o hb e
      rw [Array.getElem?_eq_none_iff] at hx; omega
    | some x =>
      have hx' : xs.toList[k]? = some x := by rw [Array.getElem?_toList]; exact hx
      have hb := (List.getElem?_eq_some_iff.mp hx').1
      rw [r.length] at hb
      obtain ⟨y, hy, ry⟩ := r.get (List.getElem?_eq_getElem hb)
      rw [hx'] at hy; cases hy
      exact wpAny_pyNext_tuple_item f hl hx fun h' hi' hs => h1 _ x h' s.toks (List.getElem?_eq_getElem hb) ry (fun b o hb e => hs.extBut b o hb e) (.tup e1 r hi')
  | @dct a ents n _ es e1 lo r hnd f =>
    have hv' : (es.map fun p => V.int p.1) = vs := hv
    subst hv'
    have q := S.at_ a
    rw [e1] at q
    obtain ⟨kvs, k1, k2, k3⟩ := drs_iv (prog := G.prog) r
    have hat : s.heap.DictAt (intKind G.prog G.w) a kvs n := ⟨_, ents, q, ⟨rfl, rfl, rfl⟩, rfl, fun e he => k3 e (Array.mem_toList_iff.mpr he), k2, by rw [k1.keys]; exact hnd⟩
    rw [← k1.length] at f
    cases hx : kvs[k]? with
    | none =>
      refine wpAny_pyNext_dict_end hA f hat hx fun h' he => h2 h' s.toks ?_ fun b o hb e => he b o hb e
      rw [List.getElem?_eq_none_iff] at hx
      rw [List.length_map, ← k1.length]; exact hx
    | some p =>
      obtain ⟨key, x⟩ := p
      have hk2 : (es.map (·.1))[k]? = some key := by rw [← k1.keys, List.getElem?_map, hx]; rfl
      refine wpAny_pyNext_dict_item f hat hx fun kv h' hkey hit' hs => ?_
      obtain ⟨t, rfl⟩ := Value.isInt_shape (hkey : Value.isInt key kv = true)
      refine h1 (.int key) _ h' s.toks ?_ (.int _ _) (fun b o hb e => hs.extBut b o hb e) (.dct e1 lo r hnd (by rw [← k1.length]; exact hit'))
      rw [List.getElem?_map] at hk2 ⊢
      cases he : es[k]? with
      | none => rw [he] at hk2; cases hk2
      | some p => rw [he] at hk2; simp only [Option.map_some, Option.some.injEq] at hk2 ⊢; rw [hk2]
  | @rng a d n _ hk f =>
    have hv' : ((List.range n).map fun (k : Nat) => V.int (a + (k : Int) * d)) = vs := hv
    subst hv'
    by_cases hlt : k < n
    · refine wpAny_pyNext_range_item f (by omega) fun h' hi' hs => h1 (.int (a + (k : Int) * d)) _ h' _ (by simp [hlt]) (.int _ _) (fun b o hb e => hs.extBut b o hb e) (.rng hlt ?_)
      have e1 : a + ((k + 1 : Nat) : Int) * d = a + (k : Int) * d + d := by rw [Int.natCast_add, Int.add_mul]; omega
      have e2 : (n : Int) - ((k + 1 : Nat) : Int) = (n : Int) - k - 1 := by omega
      rw [e1, e2]; exact hi'
    · exact wpAny_pyNext_range_end hA f (by omega) fun h' he => h2 h' s.toks (by simp; omega) fun b o hb e => he b o hb e
end
section
variable {c : Cx} {σ : St}

/-- the end of a loop's turn -/
def Turn (J : St → Prop) (Q : Fl → St → Prop) : Fl → St → Prop
  | .next, σ => ∃ l, Sub l σ.loc ∧ J ⟨l, σ.sto⟩
  | .cont, σ => ∃ l, Sub l σ.loc ∧ J ⟨l, σ.sto⟩
  | .brk, σ => Q .next σ
  | .ret v, σ => Q (.ret v) σ

/-- a loop over an iterator that the frame guards -/
theorem for_loop {W₁ : Wd} {env : Env} {s₂ : Shared} {A : Around} {target : Expr} {body orelse : List Stmt} {I : Addr} {src : ISrc} {Q : Fl → St → Prop} {σ₁ : St} {R : Result → Shared → Prop} (J : Nat → St → Prop)
    (hE : EnvOk c env) (hA : AOk c.n A) (S₂ : Sim c W₁ env σ₁ s₂) (It : ItAt c.G.w W₁ s₂.heap I src 0) (hout : W₁ I = .out) (hJ : J 0 σ₁) (meas : Nat → St → Nat)
    (hturn : ∀ k σ', J k σ' → ∃ vs, Items σ'.sto src vs ∧ (∀ v, vs[k]? = some v → Asg c target v σ' fun _ σ₂ => Exs c body σ₂ (Turn (fun σ'' => J (k + 1) σ'' ∧ meas (k + 1) σ'' < meas k σ') Q)) ∧ (vs.length ≤ k → Exs c orelse σ' Q))
    (hR : ∀ f σ' W' x s', Q f σ' → Le W₁ W' → FR c.G.w W' f x → Sim c W' env σ' s' → R (.ok x) s') :
    codeAny (model c.G.prog c.G.w) A (.forLoop target (.ref I) body orelse env) R s₂ := by
  obtain ⟨o, hI, hob⟩ := It.ob
  have Sp := S₂.prot hout hI
  have nocell : ∀ (W' : Wd) (σ' : St) (s' : Shared), Sim c W' env σ' s' → ∀ o', W' I = .prot o' → ItOb o' → ∀ b vo, s'.heap.IsCell b vo → b ≠ I := by
    rintro W' σ' s' S' o' hWI ⟨_, _, _, hnc'⟩ b vo hc rfl
    obtain ⟨ob, e1, e2⟩ := hc
    have q := S'.1.at_ b
    rw [hWI] at q
    rw [show s'.heap.get? b = some o' from q] at e1
    cases e1
    exact hnc' _ e2
  refine codeAny_forLoop_any (fun n s' => ∃ k σ' W' o', n = meas k σ' ∧ J k σ' ∧ Le W₁ W' ∧ W' I = .prot o' ∧ ItOb o' ∧ ItAt c.G.w W' s'.heap I src k ∧ Sim c W' env σ' s') ?_ (meas 0 σ₁)
    ⟨0, σ₁, W₁.put I (.prot o), o, rfl, hJ, Le.put hout, Wd.put_self _ _ _, hob, It.mono (Le.put hout).q (fun _ e => e), Sp⟩
  rintro n s' ⟨k, σ', W', o', rfl, hJk, hle, hWI, hob', hit, S'⟩
  obtain ⟨vs, hitems, hgo, hend⟩ := hturn k σ' hJk
  refine hit.next S'.1 (.inl ⟨_, hWI⟩) hA.1 hitems (fun v x h' tk hv rv hs hit' => ?_) (fun h' tk hlen hs => ?_)
  · obtain ⟨oI, g1, g2⟩ := hit'.ob
    have S'' : Sim c (W'.put I (.prot oI)) env σ' { s' with heap := h', toks := tk } := ⟨S'.1.turn hWI hs g1, S'.2.turn hWI (nocell W' σ' s' S' o' hWI hob') hs⟩
    have leT : Le W₁ (W'.put I (.prot oI)) := fun b hb => by
      rw [Wd.put_ne]
      · exact hle b hb
      · rintro rfl; exact hb hout
    have lqT : Leq W' (W'.put I (.prot oI)) := Leq.turn hWI
    obtain ⟨nm, g3, g4, g5⟩ := id g2
    dsimp only
    refine let_go (o := oI) g1 g3 g4 ?_
    refine seq1 (hgo v hv) hE hA S'' ⟨x, rv.mono lqT, rfl⟩ fun _ σ₂ W₂ _ s₃ h₂ l₂ _ S₃ => ?_
    refine seq1 h₂ hE hA S₃ rfl fun f σ₃ W₃ fv s₄ h₃ l₃ r₃ S₄ => ?_
    have hI3 : W₃ I = .prot oI := by
      have e2 : W₂ I = .prot oI := by rw [l₂ I (by rw [Wd.put_self]; exact fun e => by cases e), Wd.put_self]
      rw [l₃ I (by rw [e2]; exact fun e => by cases e), e2]
    have hit4 : ItAt c.G.w W₃ s₄.heap I src (k + 1) := by
      refine hit'.mono ((lqT.trans l₂.q).trans l₃.q) fun ob e => ?_
      have q := S₄.1.at_ I
      rw [hI3] at q
      rw [g1] at e; cases e; exact q
    have lw := (leT.trans l₂).trans l₃
    have goon : ∀ l, Sub l σ₃.loc → J (k + 1) ⟨l, σ₃.sto⟩ ∧ meas (k + 1) ⟨l, σ₃.sto⟩ < meas k σ' → ∃ m, m < meas k σ' ∧ ∃ k' σ' W' o', m = meas k' σ' ∧ J k' σ' ∧ Le W₁ W' ∧ W' I = .prot o' ∧ ItOb o' ∧ ItAt c.G.w W' s₄.heap I src k' ∧ Sim c W' env σ' s₄ :=
      fun l hl ⟨hj, hm⟩ => ⟨_, hm, k + 1, ⟨l, σ₃.sto⟩, W₃, oI, rfl, hj, lw, hI3, g2, hit4, S₄.sub hl⟩
    cases r₃ with
    | next => obtain ⟨l, hl, hj⟩ := h₃; exact goon l hl hj
    | cont => obtain ⟨l, hl, hj⟩ := h₃; exact goon l hl hj
    | brk => exact hR .next σ₃ W₃ _ _ h₃ lw .next S₄
    | ret r => exact hR (.ret _) σ₃ W₃ _ _ h₃ lw (.ret r) S₄
  · have S'' : Sim c (W'.put I .out) env σ' { s' with heap := h', toks := tk } := ⟨S'.1.drop hWI hs, S'.2.turn hWI (nocell W' σ' s' S' o' hWI hob') hs⟩
    have l' : Le W₁ (W'.put I .out) := fun b hb => by
      rw [Wd.put_ne]
      · exact hle b hb
      · rintro rfl; exact hb hout
    dsimp only
    exact seq1 (hend hlen) hE hA S'' rfl fun f σ₃ W₃ fv s₄ h₃ l₃ r₃ S₄ => hR f σ₃ W₃ _ _ h₃ (l'.trans l₃) r₃ S₄

theorem Ex_for {target iter : Expr} {body orelse : List Stmt} {pos : Pos} {Q : Fl → St → Prop} (J : Nat → St → Prop) (hf : ∀ env x, foldedSetIterable iter env x = pure x)
    (h : Ev c iter σ fun a σ₁ => ∃ vs, Src σ₁ a (.seq vs) ∧ J 0 σ₁ ∧ (∀ k v σ', vs[k]? = some v → J k σ' → Asg c target v σ' fun _ σ₂ => Exs c body σ₂ (Turn (J (k + 1)) Q)) ∧ ∀ σ', J vs.length σ' → Exs c orelse σ' Q) :
    Ex c (.For target iter body orelse pos) σ Q := by
  intro W env s A m hE hA hS hT
  subst hT
  refine wpAny_For (seq1 h hE hA hS rfl fun a σ₁ W₁ x s₁ h₁ l₁ r₁ S₁ => ?_) (hf env)
  obtain ⟨vs, hsrc, hJ, hturn, hend⟩ := h₁
  refine hsrc.iter r₁ S₁ fun I s₂ It hout _ _ S₂ => ?_
  refine for_loop (Q := Q) (fun k σ' => k ≤ vs.length ∧ J k σ') hE hA S₂ It hout ⟨Nat.zero_le _, hJ⟩ (fun k _ => vs.length - k) (fun k σ' ⟨hk, hj⟩ => ⟨vs, rfl, fun v hv => ?_, fun hl => ?_⟩) fun f σ' W' x s' q l r S' => ⟨f, σ', W', q, l₁.trans l, r, S'⟩
  · have hb := (List.getElem?_eq_some_iff.mp hv).1
    refine (hturn k v σ' hv hj).mono fun _ σ₂ h₂ => h₂.mono fun f σ₃ h₃ => ?_
    cases f with
    | next => obtain ⟨l, hl, hj⟩ := h₃; exact ⟨l, hl, ⟨hb, hj⟩, by omega⟩
    | cont => obtain ⟨l, hl, hj⟩ := h₃; exact ⟨l, hl, ⟨hb, hj⟩, by omega⟩
    | brk => exact h₃
    | ret r => exact h₃
  · have : k = vs.length := by omega
    subst this
    exact hend σ' hj
/-- .. over a list of the store that may turn: J k says where the walk stands -/
theorem Ex_forC {target iter : Expr} {body orelse : List Stmt} {pos : Pos} {Q : Fl → St → Prop} (J : Nat → St → Prop) (meas : Nat → St → Nat) (hf : ∀ env x, foldedSetIterable iter env x = pure x)
    (h : Ev c iter σ fun a σ₁ => ∃ i, Src σ₁ a (.cell i) ∧ J 0 σ₁ ∧ (∀ k σ', J k σ' → ∃ vs, σ'.sto[i]? = some (.list vs) ∧ (∀ v, vs[k]? = some v → Asg c target v σ' fun _ σ₂ => Exs c body σ₂ (Turn (fun σ'' => J (k + 1) σ'' ∧ meas (k + 1) σ'' < meas k σ') Q)) ∧ (vs.length ≤ k → Exs c orelse σ' Q))) :
    Ex c (.For target iter body orelse pos) σ Q := by
  intro W env s A m hE hA hS hT
  subst hT
  refine wpAny_For (seq1 h hE hA hS rfl fun a σ₁ W₁ x s₁ h₁ l₁ r₁ S₁ => ?_) (hf env)
  obtain ⟨i, hsrc, hJ, hturn⟩ := h₁
  refine hsrc.iter r₁ S₁ fun I s₂ It hout _ _ S₂ => ?_
  exact for_loop (Q := Q) J hE hA S₂ It hout hJ meas (fun k σ' hj => hturn k σ' hj) fun f σ' W' x s' q l r S' => ⟨f, σ', W', q, l₁.trans l, r, S'⟩
end
section
variable {c : Cx} {σ : St}

theorem Ex_while {t : Expr} {body orelse : List Stmt} {pos : Pos} {Q : Fl → St → Prop} (I : Nat → St → Prop) (n₀ : Nat) (h0 : ∃ l, Sub l σ.loc ∧ I n₀ ⟨l, σ.sto⟩)
    (turn : ∀ n σ', I n σ' → Tst c t σ' fun b σ₁ => if b then Exs c body σ₁ (Turn (fun σ => ∃ m, m < n ∧ I m σ) Q) else Exs c orelse σ₁ Q) : Ex c (.While t body orelse pos) σ Q := by
  intro W env s A m hE hA hS hT
  subst hT
  obtain ⟨l, hl, hI⟩ := h0
  refine wpAny_While (codeAny_whileLoop (fun n s' => ∃ σ' W', I n σ' ∧ Le W W' ∧ Sim c W' env σ' s') ?_ n₀ ⟨⟨l, σ.sto⟩, W, hI, Le.refl W, hS.sub hl⟩)
  rintro n s' ⟨σ', W', hI', l₀, S'⟩
  refine seq1 (turn n σ' hI') hE hA S' rfl fun b σ₁ W₁ x s₁ h₁ l₁ r₁ S₁ => ?_
  subst r₁
  cases b
  · simp only [Bool.false_eq_true, if_false] at h₁ ⊢
    exact seq1 h₁ hE hA S₁ rfl fun f σ₃ W₃ z s₃ q l₃ r₃ S₃ => ⟨f, σ₃, W₃, q, (l₀.trans l₁).trans l₃, r₃, S₃⟩
  · simp only [if_true] at h₁ ⊢
    refine seq1 h₁ hE hA S₁ rfl fun f σ₃ W₃ z s₃ q l₃ r₃ S₃ => ?_
    have lw := (l₀.trans l₁).trans l₃
    cases r₃ with
    | next => obtain ⟨l, hl, k, hk, hj⟩ := q; exact ⟨k, hk, ⟨l, σ₃.sto⟩, W₃, hj, lw, S₃.sub hl⟩
    | cont => obtain ⟨l, hl, k, hk, hj⟩ := q; exact ⟨k, hk, ⟨l, σ₃.sto⟩, W₃, hj, lw, S₃.sub hl⟩
    | brk => exact ⟨.next, σ₃, W₃, q, lw, .next, S₃⟩
    | ret r => exact ⟨.ret _, σ₃, W₃, q, lw, .ret r, S₃⟩
end

/-! calls of the text's own defs -/
/-- f, called with args, ends and gives back what Q says; n: the depth that it may take -/
def Calls (G : Gl) (n : Nat) (f : Value) (args : List V) (sto : List MO) (Q : V → List MO → Prop) : Prop :=
  ∀ W s A xs, (∀ a, W a ≠ .own) → AOk n A → SimG G W sto s → VRs G.w W args xs →
    codeAny (model G.prog G.w) A (.call f ⟨xs, []⟩) (fun r s' => ∃ x v sto' W', r = .ok (.ret x) ∧ Q v sto' ∧ Le W W' ∧ (∀ a, W' a ≠ .own) ∧ VR G.w W' v x ∧ SimG G W' sto' s') s

theorem Calls.mono {G : Gl} {n : Nat} {f : Value} {args : List V} {sto : List MO} {Q Q' : V → List MO → Prop} (h : Calls G n f args sto Q) (k : ∀ v sto, Q v sto → Q' v sto) : Calls G n f args sto Q' :=
  fun W s A xs h0 hA hS hx => codeAny_mono (h W s A xs h0 hA hS hx) fun _ _ ⟨x, v, sto', W', e, q, r⟩ => ⟨x, v, sto', W', e, k _ _ q, r⟩
theorem Calls.more {G : Gl} {n k : Nat} {f : Value} {args : List V} {sto : List MO} {Q : V → List MO → Prop} (h : Calls G n f args sto Q) (e : n ≤ k) : Calls G k f args sto Q :=
  fun W s A xs h0 hA hS hx => h W s A xs h0 (hA.less e) hS hx

/-- the frame's own objects are guarded for the time of a call -/
def guardW (W : Wd) (h : Heap) : Wd := fun a => match W a with
  | .own => match h.get? a with
    | some o => .prot o
    | none => .out
  | r => r
def backW (W W' : Wd) : Wd := fun a => match W a with
  | .own => .own
  | _ => W' a
theorem guardW_ne {W : Wd} {h : Heap} {a : Addr} (e : W a ≠ .own) : guardW W h a = W a := by
  unfold guardW
  split
  · rename_i q; exact absurd q e
  · rfl
theorem backW_ne {W W' : Wd} {a : Addr} (e : W a ≠ .own) : backW W W' a = W' a := by
  unfold backW
  split
  · rename_i q; exact absurd q e
  · rfl
theorem backW_own {W W' : Wd} {a : Addr} (e : W a = .own) : backW W W' a = .own := by
  unfold backW; rw [e]
theorem guardW_q (W : Wd) (h : Heap) : Leq W (guardW W h) := ⟨fun a o e => by rw [guardW_ne (by rw [e]; exact fun x => by cases x)]; exact e, fun a o e => by rw [guardW_ne (by rw [e]; exact fun x => by cases x)]; exact e⟩
theorem SimG.guard {G : Gl} {W : Wd} {sto : List MO} {s : Shared} (S : SimG G W sto s) : SimG G (guardW W s.heap) sto s := by
  have q := guardW_q W s.heap
  refine ⟨S.sh, fun b x k => q.1 b x (S.base b x k), fun b => ?_, fun x y i hx hy => ?_, fun x i hx => ?_⟩
  · have k := (S.at_ b).mono q (fun _ x => x)
    by_cases e : W b = .own
    · rw [e] at k
      obtain ⟨o, ho⟩ := k
      have : guardW W s.heap b = .prot o := by unfold guardW; rw [e, ho]
      rw [this]; exact ho
    · rw [guardW_ne e]; exact k
  · have key : ∀ z, guardW W s.heap z = .cell i → W z = .cell i := fun z hz => by
      by_cases e : W z = .own
      · unfold guardW at hz; rw [e] at hz; simp only at hz; split at hz <;> cases hz
      · rw [guardW_ne e] at hz; exact hz
    exact S.inj x y i (key x hx) (key y hy)
  · have key : ∀ z, guardW W s.heap z = .cell i → W z = .cell i := fun z hz => by
      by_cases e : W z = .own
      · unfold guardW at hz; rw [e] at hz; simp only at hz; split at hz <;> cases hz
      · rw [guardW_ne e] at hz; exact hz
    exact S.low x i (key x hx)
theorem guardW_no {W : Wd} {h : Heap} (a : Addr) : guardW W h a ≠ .own := by
  unfold guardW
  split
  · split <;> exact fun x => by cases x
  · rename_i q; exact q

theorem Sim.back {c : Cx} {W W' : Wd} {env : Env} {σ : St} {s s' : Shared} {sto' : List MO} (S : Sim c W env σ s) (l : Le (guardW W s.heap) W') (S' : SimG c.G W' sto' s') :
    Sim c (backW W W') env ⟨σ.loc, sto'⟩ s' ∧ Le W (backW W W') ∧ Leq W' (backW W W') := by
  have own : ∀ a, W a = .own → ∃ o, s.heap.get? a = some o ∧ W' a = .prot o := fun a e => by
    have k := S.1.at_ a
    rw [e] at k
    obtain ⟨o, ho⟩ := k
    have : guardW W s.heap a = .prot o := by unfold guardW; rw [e, ho]
    exact ⟨o, ho, (l a (by rw [this]; exact fun x => by cases x)).trans this⟩
  have hle : Le W (backW W W') := fun a e => by
    by_cases h : W a = .own
    · rw [backW_own h, h]
    · rw [backW_ne h, l a (by rw [guardW_ne h]; exact e), guardW_ne h]
  have hq : Leq W' (backW W W') := by
    refine ⟨fun a o e => ?_, fun a o e => ?_⟩
    · rw [backW_ne]
      · exact e
      · intro h; obtain ⟨_, _, q⟩ := own a h; rw [q] at e; cases e
    · rw [backW_ne]
      · exact e
      · intro h; obtain ⟨_, _, q⟩ := own a h; rw [q] at e; cases e
  refine ⟨⟨⟨S'.sh, fun b x k => hq.1 b x (S'.base b x k), fun b => ?_, fun x y i hx hy => ?_, fun x i hx => ?_⟩, ?_⟩, hle, hq⟩
  · have k := (S'.at_ b).mono hq (fun _ x => x)
    by_cases e : W b = .own
    · rw [backW_own e]
      obtain ⟨o, _, q⟩ := own b e
      rw [q] at k
      exact ⟨o, k⟩
    · rw [backW_ne e]; exact k
  · have key : ∀ z, backW W W' z = .cell i → W' z = .cell i := fun z hz => by
      by_cases e : W z = .own
      · rw [backW_own e] at hz; cases hz
      · rw [backW_ne e] at hz; exact hz
    exact S'.inj x y i (key x hx) (key y hy)
  · have key : ∀ z, backW W W' z = .cell i → W' z = .cell i := fun z hz => by
      by_cases e : W z = .own
      · rw [backW_own e] at hz; cases hz
      · rw [backW_ne e] at hz; exact hz
    exact S'.low x i (key x hx)
  · refine S.2.keeps hle.q (fun a e => backW_own e) (fun a o e => ?_) fun a o ha e => ?_
    · exact (hle a (by rw [e]; exact fun x => by cases x)).trans e
    · rcases ha with ha | ⟨o', ha⟩
      · obtain ⟨o2, e2, q⟩ := own a ha
        rw [e2] at e; cases e
        have k := S'.at_ a
        rw [q] at k
        exact k
      · have k := S.1.at_ a
        rw [ha] at k
        have k' : s.heap.get? a = some o' := k
        rw [k'] at e; cases e
        have k2 := S'.at_ a
        rw [l a (by rw [guardW_ne (by rw [ha]; exact fun x => by cases x), ha]; exact fun x => by cases x), guardW_ne (by rw [ha]; exact fun x => by cases x), ha] at k2
        exact k2

/-- a call of an own def within a frame -/
theorem CallV_fun {c : Cx} {σ : St} {n : Nat} {f : Value} {vs : List V} {Q : V → St → Prop} (h : Calls c.G n f vs σ.sto fun v sto' => Q v ⟨σ.loc, sto'⟩) (hn : n ≤ c.n) : CallV c f vs σ Q := by
  intro W env s A m hE hA hS hT
  obtain ⟨xs, hx, rfl⟩ := hT
  refine wpAny_call (codeAny_mono (h (guardW W s.heap) s A xs guardW_no (hA.less hn) hS.1.guard (hx.mono (guardW_q _ _))) ?_)
  rintro r s' ⟨x, v, sto', W', rfl, q, l, hno, rv, S'⟩
  obtain ⟨S'', le, lq⟩ := hS.back l S'
  exact ⟨v, _, _, q, le, rv.mono lq, S''⟩

/-! a def's frame -/
theorem SimG.owned {G : Gl} {W W' : Wd} {sto : List MO} {s : Shared} (S : SimG G W sto s) (l : Le W W') (h : ∀ a, W a = .out → W' a = .out ∨ (W' a = .own ∧ ∃ o, s.heap.get? a = some o)) : SimG G W' sto s := by
  refine ⟨S.sh, fun b x k => l.q.1 b x (S.base b x k), fun b => ?_, fun x y i hx hy => ?_, fun x i hx => ?_⟩
  · by_cases e : W b = .out
    · rcases h b e with e' | ⟨e', o, ho⟩
      · rw [e']; exact trivial
      · rw [e']; exact ⟨o, ho⟩
    · rw [l b e]; exact (S.at_ b).mono l.q fun _ x => x
  · have key : ∀ z, W' z = .cell i → W z = .cell i := fun z hz => by
      by_cases e : W z = .out
      · rcases h z e with e' | ⟨e', _⟩ <;> rw [e'] at hz <;> cases hz
      · rw [l z e] at hz; exact hz
    exact S.inj x y i (key x hx) (key y hy)
  · have key : ∀ z, W' z = .cell i → W z = .cell i := fun z hz => by
      by_cases e : W z = .out
      · rcases h z e with e' | ⟨e', _⟩ <;> rw [e'] at hz <;> cases hz
      · rw [l z e] at hz; exact hz
    exact S.low x i (key x hx)

theorem bindL_look (k : Str → Option NameKind) (y : Str) (hy : k y = some .local) : ∀ (l : List (Str × Value)) (m : Str → Option Value) (v : Value), l.reverse.lookup y = some v → bindL k l m y = some v := by
  have gen : ∀ (l : List (Str × Value)) (m : Str → Option Value), bindL k l m y = (l.reverse.lookup y).or (m y) := by
    intro l
    induction l with
    | nil => intro m; simp [bindL]
    | cons p l ih =>
      intro m
      obtain ⟨n, v⟩ := p
      rw [bindL, ih, List.reverse_cons, List.lookup_append]
      by_cases e : y = n
      · subst e; simp [hy]
      · by_cases hk : k n = some .local
        · simp [hk, e, List.lookup, beq_eq_false_iff_ne.mpr e]
        · simp [hk, List.lookup, beq_eq_false_iff_ne.mpr e]
  intro l m v h
  rw [gen, h]; rfl
theorem bindC_look (k : Str → Option NameKind) (y : Str) (hy : k y ≠ some .local) : ∀ (l : List (Str × Value)) (m : Str → Option Value) (v : Value), l.reverse.lookup y = some v → bindC k l m y = some v := by
  have gen : ∀ (l : List (Str × Value)) (m : Str → Option Value), bindC k l m y = (l.reverse.lookup y).or (m y) := by
    intro l
    induction l with
    | nil => intro m; simp [bindC]
    | cons p l ih =>
      intro m
      obtain ⟨n, v⟩ := p
      rw [bindC, ih, List.reverse_cons, List.lookup_append]
      by_cases e : y = n
      · subst e; simp [hy]
      · by_cases hk : k n = some .local
        · simp [hk, List.lookup, beq_eq_false_iff_ne.mpr e]
        · simp [hk, e, List.lookup, beq_eq_false_iff_ne.mpr e]
  intro l m v h
  rw [gen, h]; rfl

inductive Binds (w : World) (W : Wd) : List (Str × V) → List (Str × Value) → Prop
  | nil : Binds w W [] []
  | cons {x : Str} {v : V} {y : Value} {l : List (Str × V)} {m : List (Str × Value)} : VR w W v y → Binds w W l m → Binds w W ((x, v) :: l) ((x, y) :: m)
theorem Binds.mono {w : World} {W W' : Wd} (q : Leq W W') : ∀ {l : List (Str × V)} {m : List (Str × Value)}, Binds w W l m → Binds w W' l m
  | _, _, .nil => .nil
  | _, _, .cons a b => .cons (a.mono q) (b.mono q)
theorem Binds.snoc {w : World} {W : Wd} {x : Str} {v : V} {y : Value} (r : VR w W v y) : ∀ {l : List (Str × V)} {m : List (Str × Value)}, Binds w W l m → Binds w W (l ++ [(x, v)]) (m ++ [(x, y)])
  | _, _, .nil => .cons r .nil
  | _, _, .cons a b => .cons a (b.snoc r)
theorem Binds.reverse {w : World} {W : Wd} : ∀ {l : List (Str × V)} {m : List (Str × Value)}, Binds w W l m → Binds w W l.reverse m.reverse
  | _, _, .nil => .nil
  | _, _, .cons a b => by rw [List.reverse_cons, List.reverse_cons]; exact b.reverse.snoc a
theorem Binds.look {w : World} {W : Wd} {x : Str} {v : V} : ∀ {l : List (Str × V)} {m : List (Str × Value)}, Binds w W l m → l.lookup x = some v → ∃ y, m.lookup x = some y ∧ VR w W v y
  | _, _, .nil, h => by simp at h
  | (z, _) :: _, _, .cons a b, h => by
    by_cases e : x = z
    · subst e
      rw [lookup_cons_self] at h ⊢
      cases h
      exact ⟨_, rfl, a⟩
    · rw [lookup_cons_ne _ _ e] at h ⊢
      exact b.look h
theorem Binds.names {w : World} {W : Wd} : ∀ {l : List (Str × V)} {m : List (Str × Value)}, Binds w W l m → m.map (·.1) = l.map (·.1)
  | _, _, .nil => rfl
  | _, _, .cons a b => by rw [List.map_cons, List.map_cons, b.names]

def Fl.val : Fl → V
  | .ret v => v
  | _ => .none
/-- a def of the text -/
structure FnOk (G : Gl) (f : Addr) (fd : FuncData) (body : List Stmt) : Prop where
  at_ : ∃ o, G.s0.heap.get? f = some o ∧ o.data = .func fd
  body : fd.body = .stmts body
  co : fd.scope.isCoroutine = false
  gen : fd.scope.isGenerator = false
  kind : fd.scope.kind = .function
  globals : fd.globals = mainGlobals
  builtins : fd.builtins = builtinsNs
  closure : fd.closure = []
  code : G.s0.heap.CodeRec fd.code fd.qualname
  free : fd.scope.names.all (fun y => y.2 != .free) = true

theorem Calls_def {G : Gl} {n : Nat} {f : Addr} {fd : FuncData} {body : List Stmt} {args : List V} {sto : List MO} {Q : V → List MO → Prop} (F : FnOk G f fd body) (bs : List (Str × V))
    (hbind : ∀ W s xs, SimG G W sto s → VRs G.w W args xs → ∃ binds, Binds G.w W bs binds ∧ BindsTo s fd ⟨xs, []⟩ binds)
    (hkind : (bs.all fun y => fd.scope.names.lookup y.1 == some .local || fd.scope.names.lookup y.1 == some .cell) = true)
    (h : Exs ⟨G, fd.scope, true, n⟩ body ⟨bs.reverse, sto⟩ fun fl σ => Q fl.val σ.sto) : Calls G (n + 1) (.ref f) args sto Q := by
  classical
  intro W s A xs hno hA hS hx
  obtain ⟨o, ho, hd⟩ := F.at_
  obtain ⟨binds, hb, hbt⟩ := hbind W s xs hS hx
  have kp := base_keeps hS
  refine codeAny_call_function hA.room (kp _ _ ho) hd F.co F.gen F.body (let ⟨c, oc, vs, t, e1, e2, e3⟩ := F.code; ⟨c, oc, vs, t, e1, kp _ _ e2, e3⟩) (hbt _ _ _ _ ?_)
  rw [F.closure]
  have hk' : (binds.all fun y => fd.scope.names.lookup y.1 == some .local || fd.scope.names.lookup y.1 == some .cell) = true := by
    have e : ∀ l : List (Str × Value), (l.all fun y => fd.scope.names.lookup y.1 == some .local || fd.scope.names.lookup y.1 == some .cell) = (l.map (·.1)).all fun y => fd.scope.names.lookup y == some .local || fd.scope.names.lookup y == some .cell := fun l => by rw [List.all_map]; rfl
    rw [e, hb.names]
    rw [List.all_map]; exact hkind
  refine wpAny_newFunctionEnv_cells F.kind (kindsX hk' _) fun env he s' X => ⟨(G.lim.keeps kp).keeps X.toInCall.keep, ?_⟩
  have hEnv : EnvOk ⟨G, fd.scope, true, n⟩ env := by
    refine ⟨by rw [he]; rfl, by rw [he]; exact F.kind, by rw [he]; exact F.globals, ?_⟩
    rw [he]
    exact F.builtins
  have hL : env.locals = s.heap.objs.size := by rw [he]; rfl
  have hcs : env.cells = cellsFrom (s.heap.objs.size + 1) fd.scope.names [] := by rw [he]; rfl
  have hsc : env.scope = fd.scope := by rw [he]; rfl
  have hkd : ∀ x, env.kindOf x = fd.scope.names.lookup x := fun x => by unfold Env.kindOf; rw [hsc]
  obtain ⟨hh, tk, es⟩ := X.toInCall.same
  -- the world with the frame
  let W₁ : Wd := fun a => if a = env.locals ∨ (∃ x, env.cells.lookup x = some a) then .own else W a
  have above : ∀ a, (a = env.locals ∨ ∃ x, env.cells.lookup x = some a) → s.heap.objs.size ≤ a := by
    rintro a (e | ⟨x, e⟩)
    · rw [e, hL]; exact Nat.le_refl _
    · have := X.above x a (mem_of_lookup e)
      rw [hL] at this; exact Nat.le_of_lt this
  have hout : ∀ a, (a = env.locals ∨ ∃ x, env.cells.lookup x = some a) → W a = .out := fun a e => hS.out (fresh_none _ (above a e))
  have hle : Le W W₁ := fun a e => if_neg fun h => e (hout a h)
  have hmine : ∀ a, (a = env.locals ∨ ∃ x, env.cells.lookup x = some a) → W₁ a = .own := fun a e => if_pos e
  have S₁ : SimG G W₁ sto s' := by
    have S0 : SimG G W sto s' := by rw [es]; exact hS.keeps (tk := tk) (by have := X.toInCall.keep; rw [es] at this; exact this)
    refine S0.owned hle fun a e => ?_
    by_cases h : a = env.locals ∨ ∃ x, env.cells.lookup x = some a
    · refine .inr ⟨hmine a h, ?_⟩
      rcases h with e1 | ⟨x, e1⟩
      · obtain ⟨o, _, _, e2, _⟩ := X.toInCall.ns
        rw [e1]; exact ⟨o, e2⟩
      · obtain ⟨o, e2, _⟩ := X.cell x a e1
        exact ⟨o, e2⟩
    · exact .inl ((if_neg h).trans e)
  have R₁ : LR G.w W₁ true env bs.reverse s'.heap := by
    have hbr := (hb.mono hle.q).reverse
    refine ⟨⟨_, X.toInCall.ns, fun x v e1 e2 => ?_⟩, hmine _ (.inl rfl), fun x e => ?_, fun x y a e1 e2 => name_of_addr X.apart (mem_of_lookup e1) (mem_of_lookup e2), fun x a e1 e2 => ?_, fun x a e1 => ⟨⟨_, X.cell x a e1⟩, by unfold CellRole; rw [if_pos rfl]; exact hmine a (.inr ⟨x, e1⟩)⟩⟩
    · obtain ⟨y, hy, ry⟩ := hbr.look e2
      exact ⟨y, bindL_look _ _ e1 _ _ _ hy, ry⟩
    · have e1 : env.kindOf x = some .cell := by
        rcases e with e | e
        · exact e
        · exfalso
          rw [hkd] at e
          have := List.all_eq_true.mp F.free _ (mem_of_lookup e)
          simp at this
      have e2 : (env.cells.lookup x).isSome = true := by rw [hcs]; exact cellsFrom_some _ _ _ (.inl (by rw [← hkd]; exact e1))
      obtain ⟨a, ha⟩ := Option.isSome_iff_exists.mp e2
      refine ⟨a, _, ha, X.cell x a ha, by unfold CellRole; rw [if_pos rfl]; exact hmine a (.inr ⟨x, ha⟩), fun v hv => ?_⟩
      obtain ⟨y, hy, ry⟩ := hbr.look hv
      exact ⟨y, bindC_look _ _ (by rw [e1]; exact fun x => by cases x) _ _ _ hy, ry⟩
    · have := X.above x a (mem_of_lookup e1)
      rw [e2] at this; exact Nat.lt_irrefl _ this
  refine codeAny_func (wpAny_mono (h W₁ env s' _ _ hEnv hA.deeper ⟨S₁, R₁⟩ rfl) ?_ fun _ _ x => x.elim)
  rintro fv s₂ ⟨fl, σ₂, W₂, q, l₂, rf, S₂⟩
  let W₃ : Wd := fun a => match W₂ a with | .own => .out | r => r
  have w3 : ∀ a, W₂ a ≠ .own → W₃ a = W₂ a := fun a e => by show (match W₂ a with | .own => Role.out | r => r) = _; split <;> simp_all
  have w3o : ∀ a, W₂ a = .own → W₃ a = .out := fun a e => by show (match W₂ a with | .own => Role.out | r => r) = _; rw [e]
  have lq : Leq W₂ W₃ := ⟨fun a o e => by rw [w3 a (by rw [e]; exact fun x => by cases x)]; exact e, fun a o e => by rw [w3 a (by rw [e]; exact fun x => by cases x)]; exact e⟩
  have no3 : ∀ a, W₃ a ≠ .own := fun a e => by
    by_cases h : W₂ a = .own
    · rw [w3o a h] at e; cases e
    · rw [w3 a h] at e; exact h e
  have le3 : Le W W₃ := fun a e => by
    have e1 : W₂ a = W a := by rw [l₂ a (by rw [hle a e]; exact e), hle a e]
    rw [w3 a (by rw [e1]; exact hno a), e1]
  have S₃ : SimG G W₃ σ₂.sto s₂ := by
    refine ⟨S₂.1.sh, fun b x k => lq.1 b x (S₂.1.base b x k), fun b => ?_, fun x y i hx hy => ?_, fun x i hx => ?_⟩
    · by_cases e : W₂ b = .own
      · rw [w3o b e]; exact trivial
      · rw [w3 b e]; exact (S₂.1.at_ b).mono lq fun _ x => x
    · have key : ∀ z, W₃ z = .cell i → W₂ z = .cell i := fun z hz => by
        by_cases e : W₂ z = .own
        · rw [w3o z e] at hz; cases hz
        · rw [w3 z e] at hz; exact hz
      exact S₂.1.inj x y i (key x hx) (key y hy)
    · have key : ∀ z, W₃ z = .cell i → W₂ z = .cell i := fun z hz => by
        by_cases e : W₂ z = .own
        · rw [w3o z e] at hz; cases hz
        · rw [w3 z e] at hz; exact hz
      exact S₂.1.low x i (key x hx)
  refine ⟨_, _, σ₂.sto, W₃, rfl, q, le3, no3, ?_, S₃⟩
  cases rf with
  | next => exact .none
  | brk => exact .none
  | cont => exact .none
  | ret r => exact r.mono lq
section
open PySem.Spec
mutual
/-- plain data: what == compares item by item -/
def V.pd : V → PyData
  | .int i => .int i
  | .str x => .str x
  | .tup vs => .tuple (pds vs)
  | .lst vs => .list (pds vs)
  | _ => .none
def pds : List V → List PyData
  | [] => []
  | v :: vs => v.pd :: pds vs
end
def V.ok : Nat → V → Bool
  | _, .none => true
  | _, .int _ => true
  | _, .str x => PyData.strOk x
  | n + 1, .tup vs => vs.all (V.ok n)
  | n + 1, .lst vs => vs.all (V.ok n)
  | _, _ => false

theorem pd_lay : ∀ (n : Nat) (d : V), d.ok n = true → d.pd.canLay0 = true ∧ d.pd.depth ≤ n := by
  have all : ∀ (n : Nat), (∀ d : V, d.ok n = true → d.pd.canLay0 = true ∧ d.pd.depth ≤ n) → ∀ ds : List V, (∀ d ∈ ds, d.ok n = true) → PyData.canLayAll0 (pds ds) = true ∧ PyData.depthAll (pds ds) ≤ n := by
    intro n ih ds
    induction ds with
    | nil => intro _; simp [pds, PyData.canLayAll0, PyData.depthAll]
    | cons d ds hi =>
      intro h
      have h1 := ih d (h d (.head _))
      have h2 := hi fun e he => h e (.tail _ he)
      simp only [pds, PyData.canLayAll0, PyData.depthAll, h1.1, h2.1, Bool.and_self, true_and]
      have a1 := h1.2
      have a2 := h2.2
      omega
  intro n
  induction n with
  | zero =>
    intro d h
    cases d <;> simp_all [V.ok, V.pd, PyData.canLay0, PyData.depth]
  | succ n ih =>
    intro d h
    cases d with
    | none => simp [V.pd, PyData.canLay0, PyData.depth]
    | int i => simp [V.pd, PyData.canLay0, PyData.depth]
    | str x => simp [V.ok] at h; simp [V.pd, PyData.canLay0, PyData.depth, h]
    | tup ds =>
      have q := all n ih ds (by simpa [V.ok] using h)
      have q2 := q.2
      simp only [V.pd, PyData.canLay0, PyData.depth, q.1, true_and]
      omega
    | lst ds =>
      have q := all n ih ds (by simpa [V.ok] using h)
      have q2 := q.2
      simp only [V.pd, PyData.canLay0, PyData.depth, q.1, true_and]
      omega
    | _ => simp [V.ok] at h
theorem pd_eqv : ∀ (n : Nat) (d e : V) (k : Nat), d.ok n = true → e.ok k = true → (PyData.eqv d.pd e.pd = true ↔ d = e) := by
  have all : ∀ (n : Nat), (∀ (d e : V) (k : Nat), d.ok n = true → e.ok k = true → (PyData.eqv d.pd e.pd = true ↔ d = e)) → ∀ (k : Nat) (ds es : List V), (∀ d ∈ ds, d.ok n = true) → (∀ d ∈ es, d.ok k = true) →
      (PyData.eqvAll (pds ds) (pds es) = true ↔ ds = es) := by
    intro n ih k ds
    induction ds with
    | nil => intro es _ _; cases es <;> simp [pds, PyData.eqvAll]
    | cons d ds hi =>
      intro es h1 h2
      cases es with
      | nil => simp [pds, PyData.eqvAll]
      | cons e es =>
        have q1 := ih d e k (h1 d (.head _)) (h2 e (.head _))
        have q2 := hi es (fun x hx => h1 x (.tail _ hx)) fun x hx => h2 x (.tail _ hx)
        simp only [pds, PyData.eqvAll, Bool.and_eq_true, q1, q2, List.cons.injEq]
  intro n
  induction n with
  | zero =>
    intro d e k h1 h2
    cases d <;> cases e <;> cases k <;> simp_all [V.ok, V.pd, PyData.eqv]
  | succ n ih =>
    intro d e k h1 h2
    cases d with
    | tup ds =>
      cases e with
      | tup es =>
        cases k with
        | zero => simp [V.ok] at h2
        | succ k =>
          simp only [V.pd, PyData.eqv, V.tup.injEq]
          exact all n ih k ds es (by simpa [V.ok] using h1) (by simpa [V.ok] using h2)
      | _ => cases k <;> simp_all [V.ok, V.pd, PyData.eqv]
    | lst ds =>
      cases e with
      | lst es =>
        cases k with
        | zero => simp [V.ok] at h2
        | succ k =>
          simp only [V.pd, PyData.eqv, V.lst.injEq]
          exact all n ih k ds es (by simpa [V.ok] using h1) (by simpa [V.ok] using h2)
      | _ => cases k <;> simp_all [V.ok, V.pd, PyData.eqv]
    | _ => cases e <;> cases k <;> simp_all [V.ok, V.pd, PyData.eqv]

mutual
theorem VR.reads {w : World} {W : Wd} {h : Heap} (hf : ∀ a o, W a = .froz o → h.get? a = some o) : ∀ {v : V} {x : Value} (n : Nat), VR w W v x → v.ok n = true → ∃ as, Reads h x v.pd as
  | _, _, _, .none, _ => ⟨_, Reads.none⟩
  | _, _, n, .bool _, k => by cases n <;> simp [V.ok] at k
  | _, _, _, .int i t, _ => ⟨_, Reads.int i t⟩
  | _, _, _, .str i t, _ => ⟨_, Reads.str i t⟩
  | _, _, 0, .tup e r, k => by simp [V.ok] at k
  | _, _, n + 1, .tup e r, k => by
    obtain ⟨as, q⟩ := VRs.reads hf n r (by simpa [V.ok] using k)
    rw [V.pd]
    exact ⟨as, reads_tuple_at (hf _ _ e) rfl rfl q⟩
  | _, _, 0, .lst e a b r, k => by simp [V.ok] at k
  | _, _, n + 1, .lst e a b r, k => by
    obtain ⟨as, q⟩ := VRs.reads hf n r (by simpa [V.ok] using k)
    rw [V.pd]
    exact ⟨_, reads_list_at (hf _ _ e) a b q⟩
  | _, _, n, .dct _ _ _, k => by cases n <;> simp [V.ok] at k
  | _, _, n, .rng _, k => by cases n <;> simp [V.ok] at k
  | _, _, n, .ref _, k => by cases n <;> simp [V.ok] at k
  | _, _, n, .con _, k => by cases n <;> simp [V.ok] at k
theorem VRs.reads {w : World} {W : Wd} {h : Heap} (hf : ∀ a o, W a = .froz o → h.get? a = some o) : ∀ {v : List V} {x : List Value} (n : Nat), VRs w W v x → (∀ d ∈ v, d.ok n = true) → ∃ as, ReadsAll h x (pds v) as
  | _, _, _, .nil, _ => ⟨_, ReadsAll.nil⟩
  | _, _, n, .cons a b, k => by
    obtain ⟨as, q⟩ := VR.reads hf n a (k _ (.head _))
    obtain ⟨bs, p⟩ := VRs.reads hf n b fun d hm => k d (.tail _ hm)
    rw [pds]
    exact ⟨_, ReadsAll.cons q p⟩
end

theorem SimG.fz {G : Gl} {W : Wd} {sto : List MO} {s : Shared} (S : SimG G W sto s) : ∀ a o, W a = .froz o → s.heap.get? a = some o := fun a o e => by
  have q := S.at_ a; rw [e] at q; exact q

/-- the datum that a value stands for -/
def Rd (σ : St) (a d : V) : Prop := (a = d ∧ d.ok 8 = true) ∨ ∃ i vs, a = .ref i ∧ σ.sto[i]? = some (.list vs) ∧ d = .lst vs ∧ d.ok 8 = true
theorem Rd.ok {σ : St} {a d : V} (h : Rd σ a d) : d.ok 8 = true := by
  rcases h with ⟨_, h⟩ | ⟨_, _, _, _, _, h⟩ <;> exact h
theorem Rd.data {σ : St} {d : V} (h : d.ok 8 = true) : Rd σ d d := .inl ⟨rfl, h⟩
theorem Rd.reads {c : Cx} {W : Wd} {env : Env} {σ : St} {s : Shared} {a d : V} {x : Value} (h : Rd σ a d) (r : VR c.G.w W a x) (S : Sim c W env σ s) : ∃ as, Reads s.heap x d.pd as := by
  rcases h with ⟨rfl, h⟩ | ⟨i, vs, rfl, e, rfl, h⟩
  · exact r.reads S.1.fz 8 h
  · cases r with
    | @ref _ a e1 =>
      have q := S.1.at_ a
      rw [e1] at q
      obtain ⟨m, o, e2, e3, e4⟩ := q
      rw [e] at e2; cases e2
      cases e4 with
      | list r =>
        obtain ⟨as, q⟩ := r.reads S.1.fz 7 (by simpa [V.ok] using h)
        rw [V.pd]
        exact ⟨_, reads_list_at e3 rfl rfl q⟩
theorem shaped_of {d : V} (h : d.ok 8 = true) : SeqAt.shaped d.pd = true := by
  have l := pd_lay 8 d h
  unfold SeqAt.shaped
  rw [l.1, Bool.true_and]
  exact decide_eq_true (Nat.le_trans l.2 (by decide))

section
variable {c : Cx} {σ : St}
theorem Cmp_eq {a b d e : V} {Q : V → St → Prop} (ha : Rd σ a d) (hb : Rd σ b e) (h : ∀ r : Bool, (r = true ↔ d = e) → Q (.bool r) σ) : CmpV c .Eq a b σ Q := by
  intro W env s A m hE hA hS hT
  obtain ⟨x, y, hx, hy, rfl⟩ := hT
  obtain ⟨as, ra⟩ := ha.reads hx hS
  obtain ⟨bs, rb⟩ := hb.reads hy hS
  exact eq_dataH ra rb (shaped_of ha.ok) (shaped_of hb.ok) (by have := hA.2.2; show A.units + 64 < 9900; omega) ⟨_, σ, W, h _ (pd_eqv 8 d e 8 ha.ok hb.ok), Le.refl W, .bool _, hS⟩
theorem Cmp_ne {a b d e : V} {Q : V → St → Prop} (ha : Rd σ a d) (hb : Rd σ b e) (h : ∀ r : Bool, (r = true ↔ d ≠ e) → Q (.bool r) σ) : CmpV c .NotEq a b σ Q := by
  intro W env s A m hE hA hS hT
  obtain ⟨x, y, hx, hy, rfl⟩ := hT
  obtain ⟨as, ra⟩ := ha.reads hx hS
  obtain ⟨bs, rb⟩ := hb.reads hy hS
  refine ne_dataH ra rb (shaped_of ha.ok) (shaped_of hb.ok) (by have := hA.2.2; show A.units + 64 < 9900; omega) ⟨_, σ, W, h _ ?_, Le.refl W, .bool _, hS⟩
  have q := pd_eqv 8 d e 8 ha.ok hb.ok
  rw [ne_eq, ← q]; simp
theorem pd_any (n k : Nat) (e : V) (he : e.ok k = true) : ∀ vs : List V, (∀ v ∈ vs, v.ok n = true) → ((pds vs).any (fun y => PyData.eqv y e.pd) = true ↔ e ∈ vs)
  | [], _ => by simp [pds]
  | v :: vs, h => by
    have q := pd_any n k e he vs fun x hx => h x (.tail _ hx)
    have q1 := pd_eqv n v e k (h v (.head _)) he
    simp only [pds, List.any_cons, Bool.or_eq_true, q, q1, List.mem_cons]
    constructor
    · rintro (x | x)
      · exact .inl x.symm
      · exact .inr x
    · rintro (x | x)
      · exact .inl x.symm
      · exact .inr x
theorem Cmp_in {a b e : V} {vs : List V} {Q : V → St → Prop} (ha : Rd σ a e) (hb : Rd σ b (.lst vs)) (h : ∀ r : Bool, (r = true ↔ e ∈ vs) → Q (.bool r) σ) : CmpV c .In a b σ Q := by
  intro W env s A m hE hA hS hT
  obtain ⟨x, y, hx, hy, rfl⟩ := hT
  obtain ⟨as, ra⟩ := ha.reads hx hS
  obtain ⟨bs, rb⟩ := hb.reads hy hS
  have ok := hb.ok
  have l := pd_lay 8 _ ok
  have le := pd_lay 8 _ ha.ok
  rw [V.pd] at rb l
  simp only [PyData.canLay0] at l
  refine SeqAt.in_list_reads rb ra l.1 le.1 ?_ ⟨_, σ, W, h _ (pd_any 7 8 e ha.ok vs (by simpa [V.ok] using ok)), Le.refl W, .bool _, hS⟩
  have := hA.2.2
  have := Nat.min_le_right (PyData.depthAll (pds vs)) e.pd.depth
  have := le.2
  show A.units + 1 + _ < 9900
  omega
theorem Cmp_notIn {a b e : V} {vs : List V} {Q : V → St → Prop} (ha : Rd σ a e) (hb : Rd σ b (.lst vs)) (h : ∀ r : Bool, (r = true ↔ e ∉ vs) → Q (.bool r) σ) : CmpV c .NotIn a b σ Q := by
  intro W env s A m hE hA hS hT
  obtain ⟨x, y, hx, hy, rfl⟩ := hT
  obtain ⟨as, ra⟩ := ha.reads hx hS
  obtain ⟨bs, rb⟩ := hb.reads hy hS
  have ok := hb.ok
  have l := pd_lay 8 _ ok
  have le := pd_lay 8 _ ha.ok
  rw [V.pd] at rb l
  simp only [PyData.canLay0] at l
  refine SeqAt.notIn_list_reads rb ra l.1 le.1 ?_ ⟨_, σ, W, h _ ?_, Le.refl W, .bool _, hS⟩
  · have := hA.2.2
    have := Nat.min_le_right (PyData.depthAll (pds vs)) e.pd.depth
    have := le.2
    show A.units + 1 + _ < 9900
    omega
  · have q := pd_any 7 8 e ha.ok vs (by simpa [V.ok] using ok)
    rw [← q]; simp

/-! identity -/
theorem Is_none {a : V} {Q : V → St → Prop} (h : ∀ r : Bool, (r = true ↔ a = .none) → Q (.bool r) σ) (hc : ∀ v, a ≠ .con v) : CmpV c .Is a .none σ Q := by
  intro W env s A m hE hA hS hT
  obtain ⟨x, y, hx, hy, rfl⟩ := hT
  cases hy
  cases hx with
  | none => exact wpAny_is_self rfl ⟨_, σ, W, h true (by simp), Le.refl W, .bool _, hS⟩
  | con => exact absurd rfl (hc _)
  | _ => exact wpAny_is_other rfl (fun x => by cases x) ⟨_, σ, W, h false (by simp), Le.refl W, .bool _, hS⟩
/-- a value that no constant object is -/
def NotCon : V → Bool
  | .con _ => false
  | _ => true
theorem is_ref_other' {M : Model} {A : Around} {E : Value → Shared → Prop} {s : Shared} {Q : Value → Shared → Prop} {x y : Addr} {ox oy : Obj} (hxy : x ≠ y) (hx : s.heap.get? x = some ox) (hy : s.heap.get? y = some oy) (hnt : oy.cls = .type "object")
    (h : Q (.bool false) s) : wpAny M A (compareOp .Is (.ref x) (.ref y)) Q E s := by
  show wpAny M A (do return .bool (← isSame (.ref x) (.ref y))) Q E s
  refine wpAny_bind ?_
  show wpAny M A (if (x == y) = true then pure true else _) _ E s
  rw [if_neg (by simpa using hxy)]
  refine wpAny_bind (wpAny_load hx (wpAny_bind (wpAny_load hy ?_)))
  split
  · rename_i h2 _ _; rw [hnt] at h2; injection h2 with h2; exact absurd h2 (by decide)
  · exact wpAny_pure (wpAny_pure h)
theorem Is_obj {a : V} {m : Addr} {o : Obj} {Q : V → St → Prop} (hc : NotCon a = true) (hm : c.G.s0.heap.get? m = some o) (ho : o.cls = .type "object") (h : Q (.bool false) σ) : CmpV c .Is a (.con (.ref m)) σ Q := by
  intro W env s A _ hE hA hS hT
  obtain ⟨x, y, hx, hy, rfl⟩ := hT
  cases hy
  have hW := hS.1.base m o hm
  have key : ∀ b ob, s.heap.get? b = some ob → b ≠ m → wpAny (model c.G.prog c.G.w) A (compareOp .Is (.ref b) (.ref m)) (fun x s' => ∃ b σ' W', Q b σ' ∧ Le W W' ∧ VRc c W' b x ∧ Sim c W' env σ' s') (fun _ _ => False) s :=
    fun b ob e hne => is_ref_other' hne e (hS.1.fz _ _ hW) ho ⟨_, σ, W, h, Le.refl W, .bool _, hS⟩
  cases hx with
  | con => cases hc
  | @tup b xs n vs e r => exact key b _ (hS.1.fz _ _ e) (by rintro rfl; rw [hW] at e; injection e with e; rw [e] at ho; injection ho with ho; exact absurd ho (by decide))
  | @lst b ob xs n vs e e1 e2 r => exact key b _ (hS.1.fz _ _ e) (by rintro rfl; rw [hW] at e; injection e with e; rw [e, e1] at ho; injection ho with ho; exact absurd ho (by decide))
  | @dct b es n ds e lo r => exact key b _ (hS.1.fz _ _ e) (by rintro rfl; rw [hW] at e; injection e with e; rw [e] at ho; injection ho with ho; exact absurd ho (by decide))
  | @rng b x y z t u v e => exact key b _ (hS.1.fz _ _ e) (by rintro rfl; rw [hW] at e; injection e with e; rw [e] at ho; injection ho with ho; exact absurd ho (by decide))
  | @ref i b e =>
    have q := hS.1.at_ b
    rw [e] at q
    obtain ⟨_, ob, _, q, _⟩ := q
    exact key b _ q (by rintro rfl; rw [hW] at e; cases e)
  | _ => exact wpAny_is_other rfl (fun x => by cases x) ⟨_, σ, W, h, Le.refl W, .bool _, hS⟩
theorem Is_self {m : Addr} {Q : V → St → Prop} (h : Q (.bool true) σ) : CmpV c .Is (.con (.ref m)) (.con (.ref m)) σ Q := by
  intro W env s A _ hE hA hS hT
  obtain ⟨x, y, hx, hy, rfl⟩ := hT
  cases hx; cases hy
  exact wpAny_is_ref_self ⟨_, σ, W, h, Le.refl W, .bool _, hS⟩
end
end
/-- the end of a list's walk; the iterator's object stands -/
theorem list_stop {prog : Program} {w : World} {A : Around} {E : Value → Shared → Prop} {s : Shared} {it l : Addr} {i : Nat} {items : Array Value} {Q : Option Value → Shared → Prop} (hh : A.handled = none)
    (hit : s.heap.IsListIter it l i) (hl : s.heap.IsList l items) (hx : items[i]? = none)
    (hQ : ∀ h' o, Heap.ExtBut it s.heap h' → h'.get? it = some o → Q none { s with heap := h' }) : wpAny (model prog w) A (pyNext (.ref it)) Q E s := by
  obtain ⟨o, e1, e2, e3⟩ := id hit
  obtain ⟨ol, f1, _, nl, f2⟩ := hl
  unfold pyNext
  refine wpAny_bind (wpAny_attempt (wpAny_callSpecial?_slot (name := Str.ofString "__next__") hit.typeIs slot_listiter_next (wpAny_call_entry slot_listiter_next hit.typeIs entry_listiter_next ?_ (args_listiter_next _))))
  show wpAny _ _ (field (.ref it) 0 >>= _) _ _ s
  refine wpAny_bind (wpAny_field e1 e3 (x := .ref l) rfl ?_)
  show wpAny _ _ (if (Value.ref l == Value.none) = true then _ else _) _ _ s
  rw [if_neg (show ¬ ((Value.ref l == Value.none) = true) from Bool.false_ne_true)]
  show wpAny _ _ (field (.ref it) 1 >>= _) _ _ s
  refine wpAny_bind (wpAny_field e1 e3 (x := .int i 0) rfl ?_)
  show wpAny _ _ (seqItems? (.ref l) >>= _) _ _ s
  refine wpAny_bind (wpAny_seqItems f1 f2 ?_)
  simp only [Int.toNat_natCast, hx]
  refine wpAny_bind (wpAny_rule (wpAny_bind (wpAny_setField e1 e3 (by simp) ?_)))
  show wpAny _ _ (newExc (.type "StopIteration") [] >>= _) _ _ _
  refine wpAny_bind ?_
  simp only [newExc, newTuple]
  refine wpAny_bind (wpAny_newObj_type ?_ (by size_fits))
  refine wpAny_bind (m := firstArgMember _ _) (wpAny_of_eq (a := Value.none) (by first | rfl | (simp only [firstArgMember]; rfl)) ?_)
  refine wpAny_newObj_type ?_ (by size_fits)
  simp only [raiseNew]
  refine wpAny_bind (wpAny_handled ?_)
  rw [show A.in1.handled = none from hh]
  refine wpAny_bind (wpAny_pure (wpAny_throw ?_))
  refine wpAny_bind (wpAny_isInstance (T := "StopIteration") (b := true) ⟨_, Heap.get?_push_size _ rfl, rfl⟩ isSubtype_stop ?_)
  refine wpAny_pure (hQ _ _ (((Heap.SameBut.update ..).extBut.push _).push _) (Heap.get?_push_of_some _ (Heap.get?_push_of_some _ (Heap.get?_update_self _ e1 ?_))))
  exact Obj.isFreed_of_fields (Obj.data_mapFields e3 _)
/-- next's own look -/
theorem list_special {prog : Program} {w : World} {A : Around} {E : Value → Shared → Prop} {s : Shared} {it l : Addr} {i : Nat} {items : Array Value} {x : Value} {Q : Option Value → Shared → Prop}
    (hit : s.heap.IsListIter it l i) (hl : s.heap.IsList l items) (hx : items[i]? = some x)
    (hQ : ∀ h', h'.IsListIter it l (i + 1) → Heap.SameBut it s.heap h' → Q (some x) { s with heap := h' }) : wpAny (model prog w) A (callSpecial? (.ref it) (Str.ofString "__next__")) Q E s := by
  obtain ⟨o, e1, e2, e3⟩ := id hit
  obtain ⟨ol, f1, _, nl, f2⟩ := hl
  refine wpAny_callSpecial?_slot (name := Str.ofString "__next__") hit.typeIs slot_listiter_next (wpAny_call_entry slot_listiter_next hit.typeIs entry_listiter_next ?_ (args_listiter_next _))
  show wpAny _ _ (field (.ref it) 0 >>= _) _ _ s
  refine wpAny_bind (wpAny_field e1 e3 (x := .ref l) rfl ?_)
  show wpAny _ _ (if (Value.ref l == Value.none) = true then _ else _) _ _ s
  rw [if_neg (show ¬ ((Value.ref l == Value.none) = true) from Bool.false_ne_true)]
  show wpAny _ _ (field (.ref it) 1 >>= _) _ _ s
  refine wpAny_bind (wpAny_field e1 e3 (x := .int i 0) rfl ?_)
  show wpAny _ _ (seqItems? (.ref l) >>= _) _ _ s
  refine wpAny_bind (wpAny_seqItems f1 f2 ?_)
  simp only [Int.toNat_natCast, hx]
  refine wpAny_bind (wpAny_setField e1 e3 (by simp) (wpAny_pure ⟨x, rfl, hQ _ ⟨_, Heap.get?_update_self _ e1 (Obj.isFreed_of_fields (Obj.data_mapFields e3 _)), (Obj.cls_mapFields ..).trans e2, ?_⟩ (Heap.SameBut.update ..)⟩))
  rw [Obj.data_mapFields e3]; simp [rawInt]

section
variable {c : Cx} {σ : St} {loc : List (Str × V)} {sto : List MO}
/-- iter(..) of a list: a new iterator -/
theorem Call_iter {a : V} {vs : List V} {Q : V → St → Prop} (ha : ListV ⟨loc, sto⟩ a vs) (h : Q (.ref sto.length) ⟨loc, sto ++ [.iter a 0]⟩) : CallV c (.builtin "iter") [a] ⟨loc, sto⟩ Q := by
  intro W env s A m hE hA hS hT
  obtain ⟨xs, hx, rfl⟩ := hT
  obtain ⟨x, rfl, r⟩ := one_of hx
  obtain ⟨l, xs, rfl, hl, rl⟩ := ha.get r hS
  refine Calls.call_function_entry (by decide +kernel) (by decide +kernel) kdk_entry_iter (kdk_args_iter _) ?_
  unfold Builtin.«iter»
  refine wpAny_bind (m := someArgs "iter" 1 2 _) (wpAny_of_eq (a := [Value.ref l]) (by first | rfl | kernel_rfl!) ?_)
  show wpAny _ _ (pyIter (.ref l) >>= _) _ _ _
  refine wpAny_bind (wpAny_pyIter_list hl ?_)
  obtain ⟨S₂, l₂⟩ := Sim.newCell (o := litO (.ref l) (.int 0 0)) (m := .iter a 0) hS rfl (.iter rfl rfl r)
  exact wpAny_pure ⟨_, rfl, _, _, _, h, l₂, .ref (Wd.put_self _ _ _), S₂⟩
/-- .. of an iterator: itself -/
theorem Call_iterI {j : Nat} {v : V} {k : Nat} {vs : List V} {Q : V → St → Prop} (hj : sto[j]? = some (.iter v k)) (hv : ListV ⟨loc, sto⟩ v vs) (h : Q (.ref j) ⟨loc, sto⟩) : CallV c (.builtin "iter") [.ref j] ⟨loc, sto⟩ Q := by
  intro W env s A m hE hA hS hT
  obtain ⟨xs, hx, rfl⟩ := hT
  obtain ⟨x, rfl, r⟩ := one_of hx
  cases r with
  | @ref _ a e1 =>
    have q := hS.1.at_ a
    rw [e1] at q
    obtain ⟨m, o, e2, e3, e4⟩ := q
    rw [hj] at e2; cases e2
    cases e4 with
    | @iter _ x _ _ f1 f2 r =>
      obtain ⟨l, xs, rfl, hl, rl⟩ := hv.get r hS
      refine Calls.call_function_entry (by decide +kernel) (by decide +kernel) kdk_entry_iter (kdk_args_iter _) ?_
      unfold Builtin.«iter»
      refine wpAny_bind (m := someArgs "iter" 1 2 _) (wpAny_of_eq (a := [Value.ref a]) (by first | rfl | kernel_rfl!) ?_)
      show wpAny _ _ (pyIter (.ref a) >>= _) _ _ _
      exact wpAny_bind (wpAny_pyIter_listiter ⟨o, e3, f1, f2⟩ (wpAny_pure ⟨_, rfl, _, _, W, h, Le.refl W, .ref e1, hS⟩))
/-- next(..) where an item is left -/
theorem Call_next {j : Nat} {v : V} {k : Nat} {vs : List V} {u : V} {Q : V → St → Prop} (hj : sto[j]? = some (.iter v k)) (hv : ListV ⟨loc, sto⟩ v vs) (hu : vs[k]? = some u) (h : Q u ⟨loc, sto.set j (.iter v (k + 1))⟩) : CallV c (.builtin "next") [.ref j] ⟨loc, sto⟩ Q := by
  intro W env s A m hE hA hS hT
  obtain ⟨xs, hx, rfl⟩ := hT
  obtain ⟨x, rfl, r⟩ := one_of hx
  cases r with
  | @ref _ a e1 =>
    have q := hS.1.at_ a
    rw [e1] at q
    obtain ⟨m, o, e2, e3, e4⟩ := q
    rw [hj] at e2; cases e2
    cases e4 with
    | @iter _ x _ _ f1 f2 r =>
      obtain ⟨l, xs, rfl, hl, rl⟩ := hv.get r hS
      obtain ⟨y, hy, ry⟩ := rl.get hu
      have hit : s.heap.IsListIter a l k := ⟨o, e3, f1, f2⟩
      refine Calls.call_function_entry (by decide +kernel) (by decide +kernel) kdk_entry_next (kdk_args_next _) ?_
      unfold Builtin.«next»
      refine wpAny_bind (m := someArgs "next" 1 2 _) (wpAny_of_eq (a := [Value.ref a]) (by first | rfl | kernel_rfl!) ?_)
      dsimp only
      refine wpAny_bind (wpAny_specialOf (name := Str.ofString "__next__") hit.typeIs slot_listiter_next.lookup ?_)
      refine wpAny_ite_split (fun hab => absurd hab (by decide)) (fun _ => ?_)
      refine wpAny_bind (list_special hit hl (by rw [← Array.getElem?_toList]; exact hy) fun h' hit' hs => ?_)
      obtain ⟨o', g1, g2, g3⟩ := hit'
      exact wpAny_pure ⟨_, rfl, u, _, W, h, Le.refl W, ry, hS.set (tk := s.toks) e1 hs g1 (.iter g2 g3 r)⟩

/-- a try whose body raises nothing -/
theorem Ex_try {body orelse : List Stmt} {h₀ : ExceptHandler} {hs : List ExceptHandler} {pos : Pos} {Q : Fl → St → Prop} (h : Exs c body σ (Then c orelse Q)) : Ex c (.Try body (h₀ :: hs) orelse [] pos) σ Q := by
  intro W env s A m hE hA hS hT
  subst hT
  refine wpAny_Try_except (wpAny_mono (seq1 (k := fun f s₁ => match f with | .next => wpAny (model c.G.prog c.G.w) A (execs orelse env) (fun x s' => ∃ b σ' W', Q b σ' ∧ Le W W' ∧ FR c.G.w W' b x ∧ Sim c W' env σ' s') (fun _ _ => False) s₁ | f => ∃ b σ' W', Q b σ' ∧ Le W W' ∧ FR c.G.w W' b f ∧ Sim c W' env σ' s₁) (E := fun _ _ => False) h hE hA hS rfl fun f σ₁ W₁ x s₁ h₁ l₁ r₁ S₁ => ?_) (fun _ _ x => x) fun _ _ x => x.elim)
  cases r₁ with
  | next => exact seq1 (T := fun _ env m => m = execs orelse env) h₁ hE hA S₁ rfl fun v σ₃ W₃ z s₃ q l₃ r₃ S₃ => ⟨v, σ₃, W₃, q, l₁.trans l₃, r₃, S₃⟩
  | brk => exact ⟨.brk, σ₁, W₁, h₁, l₁, .brk, S₁⟩
  | cont => exact ⟨.cont, σ₁, W₁, h₁, l₁, .cont, S₁⟩
  | ret r => exact ⟨.ret _, σ₁, W₁, h₁, l₁, .ret r, S₁⟩

/-- a for over an iterator of the store -/
theorem Ex_forI {target iter : Expr} {body orelse : List Stmt} {pos : Pos} {Q : Fl → St → Prop} (J : Nat → St → Prop) (meas : Nat → St → Nat) (hf : ∀ env x, foldedSetIterable iter env x = pure x)
    (h : Ev c iter σ fun a σ₁ => ∃ j v₀ k₀, a = .ref j ∧ J k₀ σ₁ ∧ (∀ k σ', J k σ' → σ'.sto[j]? = some (.iter v₀ k) ∧ ∃ vs, ListV σ' v₀ vs ∧
      (∀ v, vs[k]? = some v → Asg c target v ⟨σ'.loc, σ'.sto.set j (.iter v₀ (k + 1))⟩ fun _ σ₂ => Exs c body σ₂ (Turn (fun σ'' => J (k + 1) σ'' ∧ meas (k + 1) σ'' < meas k σ') Q)) ∧
      (vs.length ≤ k → Exs c orelse ⟨σ'.loc, σ'.sto.set j .junk⟩ Q))) :
    Ex c (.For target iter body orelse pos) σ Q := by
  intro W env s A m hE hA hS hT
  subst hT
  refine wpAny_For (seq1 h hE hA hS rfl fun a σ₁ W₁ x s₁ h₁ l₁ r₁ S₁ => ?_) (hf env)
  obtain ⟨j, v₀, k₀, rfl, hJ, hgo⟩ := h₁
  have parts : ∀ (W' : Wd) (s' : Shared) (k : Nat) (σ' : St) (I : Addr), W' I = .cell j → Sim c W' env σ' s' → σ'.sto[j]? = some (.iter v₀ k) → ∃ o x, s'.heap.get? I = some o ∧ o.cls = .type "list_iterator" ∧ o.data = .fields #[x, .int k 0] ∧ VR c.G.w W' v₀ x := by
    intro W' s' k σ' I hI S' hj
    have q := S'.1.at_ I
    rw [hI] at q
    obtain ⟨m, o, e2, e3, e4⟩ := q
    rw [hj] at e2; cases e2
    cases e4 with
    | iter f1 f2 r => exact ⟨o, _, e3, f1, f2, r⟩
  cases r₁ with
  | @ref _ I hI =>
    obtain ⟨hj0, vs0, hv0, _⟩ := hgo k₀ σ₁ hJ
    obtain ⟨o0, x0, e0, c0, d0, r0⟩ := parts W₁ s₁ k₀ σ₁ I hI S₁ hj0
    obtain ⟨l0, xs0, rfl, hl0, rl0⟩ := hv0.get r0 S₁
    refine wpAny_pyIter_listiter ⟨o0, e0, c0, d0⟩ ?_
    refine codeAny_forLoop_any (fun n s' => ∃ k σ' W', n = meas k σ' ∧ J k σ' ∧ Le W₁ W' ∧ Sim c W' env σ' s') ?_ (meas k₀ σ₁) ⟨k₀, σ₁, W₁, rfl, hJ, Le.refl _, S₁⟩
    rintro n s' ⟨k, σ', W', rfl, hJk, hle, S'⟩
    obtain ⟨hj, vs, hv, hitem, hend⟩ := hgo k σ' hJk
    have hI' : W' I = .cell j := hle.q.2 _ _ hI
    obtain ⟨o, x, e1, c1, d1, r1⟩ := parts W' s' k σ' I hI' S' hj
    obtain ⟨l, xs, rfl, hl, rl⟩ := hv.get r1 S'
    have hlen := rl.length
    rw [Array.length_toList] at hlen
    have hit : s'.heap.IsListIter I l k := ⟨o, e1, c1, d1⟩
    cases hx : xs[k]? with
    | none =>
      refine list_stop hA.1 hit hl hx fun h' o' he ho' => ?_
      have S'' : Sim c W' env ⟨σ'.loc, σ'.sto.set j .junk⟩ { s' with heap := h' } := by
        have base : ∀ b x, b ≠ I → s'.heap.get? b = some x → h'.get? b = some x := fun b x hb e => he b x hb e
        refine ⟨⟨let ⟨_, _, e⟩ := S'.1.sh; ⟨h', s'.toks, by rw [e]⟩, S'.1.base, fun b => ?_, S'.1.inj, S'.1.low⟩, S'.2.keeps (Leq.refl W') (fun _ e => e) (fun _ _ e => e) fun b o hb e => base b o (by rintro rfl; rw [hI'] at hb; rcases hb with hb | ⟨_, hb⟩ <;> cases hb) e⟩
        by_cases hb : b = I
        · subst hb
          rw [hI']
          exact ⟨.junk, o', by rw [List.getElem?_set_self (List.getElem?_eq_some_iff.mp hj).1], ho', .junk _⟩
        · have q := (S'.1.at_ b).mono (Leq.refl W') (h' := h') (fun o x => base b o hb x)
          revert q
          cases e' : W' b with
          | cell i =>
            rintro ⟨m, o, f1, f2, f3⟩
            refine ⟨m, o, ?_, f2, f3⟩
            rw [List.getElem?_set_ne]
            · exact f1
            · rintro rfl; exact hb (S'.1.inj _ _ _ e' hI')
          | _ => exact id
      have hk : vs.length ≤ k := by rw [Array.getElem?_eq_none_iff] at hx; omega
      dsimp only
      exact seq1 (hend hk) hE hA S'' rfl fun f σ₃ W₃ fv s₄ h₃ l₃ r₃ S₄ => ⟨f, σ₃, W₃, h₃, (l₁.trans hle).trans l₃, r₃, S₄⟩
    | some x =>
      have hx' : xs.toList[k]? = some x := by rw [Array.getElem?_toList]; exact hx
      have hb := (List.getElem?_eq_some_iff.mp hx').1
      rw [rl.length] at hb
      obtain ⟨y, hy, ry⟩ := rl.get (List.getElem?_eq_getElem hb)
      rw [hx'] at hy; cases hy
      refine wpAny_pyNext_list_item hit hl hx fun h' hit' hs => ?_
      obtain ⟨o', g1, g2, g3⟩ := hit'
      have S'' : Sim c W' env ⟨σ'.loc, σ'.sto.set j (.iter v₀ (k + 1))⟩ { s' with heap := h' } := Sim.set (loc := σ'.loc) (sto := σ'.sto) (tk := s'.toks) S' hI' hs g1 (.iter g2 g3 r1)
      dsimp only
      refine let_go (o := o') g1 g2 (by decide) ?_
      refine seq1 (hitem _ (List.getElem?_eq_getElem hb)) hE hA S'' ⟨x, ry, rfl⟩ fun _ σ₂ W₂ _ s₃ h₂ l₂ _ S₃ => ?_
      refine seq1 h₂ hE hA S₃ rfl fun f σ₃ W₃ fv s₄ h₃ l₃ r₃ S₄ => ?_
      have lw := (hle.trans l₂).trans l₃
      have goon : ∀ l, Sub l σ₃.loc → J (k + 1) ⟨l, σ₃.sto⟩ ∧ meas (k + 1) ⟨l, σ₃.sto⟩ < meas k σ' → ∃ m, m < meas k σ' ∧ ∃ k' σ' W', m = meas k' σ' ∧ J k' σ' ∧ Le W₁ W' ∧ Sim c W' env σ' s₄ :=
        fun l hl ⟨hj, hm⟩ => ⟨_, hm, k + 1, ⟨l, σ₃.sto⟩, W₃, rfl, hj, lw, S₄.sub hl⟩
      cases r₃ with
      | next => obtain ⟨l, hl, hj⟩ := h₃; exact goon l hl hj
      | cont => obtain ⟨l, hl, hj⟩ := h₃; exact goon l hl hj
      | brk => exact ⟨.next, σ₃, W₃, h₃, l₁.trans lw, .next, S₄⟩
      | ret r => exact ⟨.ret _, σ₃, W₃, h₃, l₁.trans lw, .ret r, S₄⟩

/-! methods of a list of the store -/
theorem plain_args {env : Env} {pos : Pos} : ∀ es : List Expr, es.any isStarred = false → ((backTo pos (starEach es env)).any (·.1)) = false
  | [], _ => rfl
  | e :: es, he => by
    rw [List.any_cons, Bool.or_eq_false_iff] at he
    have e1 : starEach (e :: es) env = (false, eval e env) :: starEach es env := by cases e <;> first | rfl | cases he.1
    rw [e1]
    show (false || (backTo pos (starEach es env)).any (·.1)) = false
    rw [plain_args es he.2]; rfl
theorem plain_few {env : Env} {pos : Pos} {args : List Expr} (hst : args.any isStarred = false) (hlen : args.length < 20) : ((backTo pos (starEach args env)).all (fun x => !x.1) && (backToKw pos (keywordEach [] env)).all (fun x => x.1.isSome)
      && decide (args.length + ([] : List Keyword).length + (if ([] : List Keyword).isEmpty then 0 else 1) < 30)) = true := by
  rw [Bool.and_eq_true, Bool.and_eq_true]
  refine ⟨⟨?_, rfl⟩, ?_⟩
  · rw [List.all_eq_true]
    intro y hy
    have := List.any_eq_false.mp (plain_args args hst) y hy
    simpa using this
  · exact decide_eq_true (by show args.length + 0 + 0 < 30; omega)
/-- a list of the store, or one known to be plain -/
theorem list_obj {W : Wd} {env : Env} {s : Shared} {σ : St} {i : Nat} {vs : List V} {x : Value} (hi : σ.sto[i]? = some (.list vs)) (r : VR c.G.w W (.ref i) x) (S : Sim c W env σ s) : s.TypeIs x "list" ∧ ∀ a, x = .ref a → ∃ ob, s.heap.get? a = some ob ∧ ob.dict = none := by
  cases r with
  | @ref _ a e1 =>
    have q := S.1.at_ a
    rw [e1] at q
    obtain ⟨mo, ob, e2, e3, e4⟩ := q
    rw [hi] at e2; cases e2
    cases e4 with
    | list r => exact ⟨⟨_, e3, rfl⟩, fun b hb => by injection hb with hb; subst hb; exact ⟨_, e3, rfl⟩⟩
theorem Ev_meth {o e : Expr} {es : List Expr} {name : Str} {apos pos : Pos} {id : String} {Q : V → St → Prop} (hbase : ∀ env, attributeBase o name env (eval o env) = eval o env) (hlen : (e :: es).length < 20) (hst : (e :: es).any isStarred = false) (hline : (apos.endLine == pos.line) = true)
    (slot : Slot "list" name id) (hty : typeOf (.builtin id) = pure (.type "method_descriptor"))
    (h : Ev c o σ fun ov σ₁ => (∃ i vs, ov = .ref i ∧ σ₁.sto[i]? = some (.list vs)) ∧ Evs c (e :: es) σ₁ fun vs σ₂ => CallV c (.builtin id) (ov :: vs) σ₂ Q) : Ev c (.Call (.Attribute o name apos) (e :: es) [] pos) σ Q := by
  intro W env s A m hE hA hS hT
  subst hT
  refine wpAny_Call_method (T := "list") (id := id) (hbase env) (plain_few hst hlen) hline PySem.F.plainAttrs_list slot hty (seq1 h hE hA hS rfl fun ov σ₁ W₁ x s₁ h₁ l₁ r₁ S₁ => ?_)
  obtain ⟨⟨i, vs, rfl, hi⟩, h₁⟩ := h₁
  obtain ⟨t1, t2⟩ := list_obj hi r₁ S₁
  refine ⟨t1, t2, ?_⟩
  refine callWith_of (P := fun h => ∀ a o, c.G.s0.heap.get? a = some o → h.get? a = some o) (by rw [plain_args _ hst]; rfl) (fun _ _ => ⟨.machine, .inr (.inl rfl), Looks.now⟩) ?_
  have he := hst
  rw [List.any_cons, Bool.or_eq_false_iff] at he
  have e1 : starEach (e :: es) env = (false, eval e env) :: starEach es env := by cases e <;> first | rfl | cases he.1
  have h₂ := h₁ W₁ env s₁ A _ hE hA S₁ ⟨pos, rfl⟩
  rw [e1] at h₂ ⊢
  refine Calls.evalArgs_plain (x := eval e env) (rest := backTo pos (starEach es env)) (wpAny_mono h₂ ?_ fun _ _ x => x.elim)
  rintro xs s₂ ⟨us, σ₂, W₂, h₃, l₂, r₂, S₂⟩
  refine ⟨base_keeps S₂.1, seq1 h₃ hE hA S₂ ⟨x :: xs, .cons (r₁.mono l₂.q) r₂.1, rfl⟩ fun v σ₃ W₃ z s₃ q l₃ r₃ S₃ => ⟨v, σ₃, W₃, q, (l₁.trans l₂).trans l₃, r₃, S₃⟩⟩
theorem Ev_meth0 {o : Expr} {name : Str} {apos pos : Pos} {id : String} {Q : V → St → Prop} (hbase : ∀ env, attributeBase o name env (eval o env) = eval o env) (hline : (apos.endLine == pos.line) = true)
    (slot : Slot "list" name id) (hty : typeOf (.builtin id) = pure (.type "method_descriptor"))
    (h : Ev c o σ fun ov σ₁ => (∃ i vs, ov = .ref i ∧ σ₁.sto[i]? = some (.list vs)) ∧ CallV c (.builtin id) [ov] σ₁ Q) : Ev c (.Call (.Attribute o name apos) [] [] pos) σ Q := by
  intro W env s A m hE hA hS hT
  subst hT
  refine wpAny_Call_method (T := "list") (id := id) (hbase env) rfl hline PySem.F.plainAttrs_list slot hty (seq1 h hE hA hS rfl fun ov σ₁ W₁ x s₁ h₁ l₁ r₁ S₁ => ?_)
  obtain ⟨⟨i, vs, rfl, hi⟩, h₁⟩ := h₁
  obtain ⟨t1, t2⟩ := list_obj hi r₁ S₁
  refine ⟨t1, t2, ?_⟩
  refine callWith_of (P := fun h => ∀ a o, c.G.s0.heap.get? a = some o → h.get? a = some o) rfl (fun _ _ => ⟨.machine, .inr (.inl rfl), Looks.now⟩) (evalArgs_nil3 ⟨base_keeps S₁.1, ?_⟩)
  exact seq1 h₁ hE hA S₁ ⟨[x], .one r₁, rfl⟩ fun v σ₃ W₃ z s₃ q l₃ r₃ S₃ => ⟨v, σ₃, W₃, q, l₁.trans l₃, r₃, S₃⟩
theorem Call_append {i : Nat} {vs : List V} {v : V} {Q : V → St → Prop} (hi : sto[i]? = some (.list vs)) (hz : vs.length < 1000000) (h : Q .none ⟨loc, sto.set i (.list (vs ++ [v]))⟩) : CallV c (.builtin "list.append") [.ref i, v] ⟨loc, sto⟩ Q := by
  intro W env s A m hE hA hS hT
  obtain ⟨xs, hx, rfl⟩ := hT
  obtain ⟨x, y, rfl, r, r'⟩ := two_of hx
  cases r with
  | @ref _ a e1 => exact append_meth hS e1 hi hz r' fun s' S' => ⟨.none, _, W, h, Le.refl W, .none, S'⟩
end
/-- the block's scope under the frame's -/
def relS (scope out : Scope) : Scope :=
  { scope with names := scope.names.map fun (n, k) => if (k == .free && out.kind == .function && out.names.lookup n == some .cell) then (n, .cell) else (n, k) }
theorem relS_eq (scope : Scope) (env : Env) : relabel scope env = relS scope env.scope := rfl

theorem lookup_mapv {α β : Type} (f : Str → α → β) (y : Str) : ∀ l : List (Str × α), (l.map fun p => (p.1, f p.1 p.2)).lookup y = (l.lookup y).map (f y)
  | [] => rfl
  | (n, k) :: r => by
    rw [List.map_cons]
    by_cases h : y = n
    · subst h; rw [lookup_cons_self, lookup_cons_self]; rfl
    · rw [lookup_cons_ne _ _ h, lookup_cons_ne _ _ h]; exact lookup_mapv f y r
theorem relS_look (scope out : Scope) (y : Str) : (relS scope out).names.lookup y = (scope.names.lookup y).map fun k => if (k == .free && out.kind == .function && out.names.lookup y == some .cell) then .cell else k := by
  have e : (relS scope out).names = scope.names.map fun p => (p.1, (fun (n : Str) (k : NameKind) => if (k == .free && out.kind == .function && out.names.lookup n == some .cell) then NameKind.cell else k) p.1 p.2) := by
    unfold relS
    refine List.map_congr_left fun p _ => ?_
    obtain ⟨n, k⟩ := p
    dsimp only
    split <;> rfl
  rw [e]
  exact lookup_mapv (fun n k => if (k == .free && out.kind == .function && out.names.lookup n == some .cell) then NameKind.cell else k) y _

/-- the tests of a block -/
def Tests (c : Cx) (ifs : List Expr) (σ : St) (Q : Bool → St → Prop) : Prop :=
  DoG c σ (fun _ b x => b = x) (fun _ env m => m = forIn ifs true fun c r => if r = true then do let ok ← isTrue c env (eval c env); pure (ForInStep.yield ok) else pure (ForInStep.yield r)) Q

section
variable {c : Cx} {σ : St}
theorem Tests_nil {Q : Bool → St → Prop} (h : Q true σ) : Tests c [] σ Q := by
  intro W env s A m hE hA hS hT
  subst hT
  exact wpAny_tests_nil ⟨true, σ, W, h, Le.refl W, rfl, hS⟩
theorem Tests_one {e : Expr} {Q : Bool → St → Prop} (h : Tst c e σ Q) : Tests c [e] σ Q := by
  intro W env s A m hE hA hS hT
  subst hT
  exact wpAny_tests_one (h W env s A _ hE hA hS rfl)

theorem clos_eq (env : Env) : ∀ (names : List (Str × NameKind)) (acc : List (Str × Addr)), (∀ n, (n, NameKind.free) ∈ names → ∃ a, env.cells.lookup n = some a) →
    ∃ cl, (forIn names acc fun (x : Str × NameKind) (cs : List (Str × Addr)) => (if (x.2 == .free) = true then do let a ← cellOf env x.1; pure (ForInStep.yield ((x.1, a) :: cs)) else pure (ForInStep.yield cs) : Sem _)) = pure cl ∧
      (∀ n a, cl.lookup n = some a → acc.lookup n = some a ∨ env.cells.lookup n = some a) ∧ (∀ n, ((n, NameKind.free) ∈ names ∨ (acc.lookup n).isSome = true) → (cl.lookup n).isSome = true)
  | [], acc, _ => ⟨acc, rfl, fun _ _ h => .inl h, fun n h => h.elim (fun x => nomatch x) id⟩
  | (n, k) :: r, acc, h => by
    by_cases hk : (k == NameKind.free) = true
    · obtain ⟨a, ha⟩ := h n (by rw [beq_iff_eq] at hk; rw [hk]; exact .head _)
      obtain ⟨cl, e, h1, h2⟩ := clos_eq env r ((n, a) :: acc) fun m hm => h m (.tail _ hm)
      refine ⟨cl, ?_, fun m b hb => ?_, fun m hm => h2 m ?_⟩
      · rw [List.forIn_cons]
        simp only [hk, if_true]
        have : cellOf env n = pure a := by unfold cellOf; rw [ha]
        rw [this, pure_bind, pure_bind]
        exact e
      · rcases h1 m b hb with h | h
        · by_cases hm : m = n
          · subst hm
            rw [lookup_cons_self] at h; cases h
            exact .inr ha
          · rw [lookup_cons_ne _ _ hm] at h; exact .inl h
        · exact .inr h
      · rcases hm with hm | hm
        · rcases List.mem_cons.mp hm with e | hm
          · cases e; exact .inr (by rw [lookup_cons_self]; rfl)
          · exact .inl hm
        · refine .inr ?_
          by_cases hmn : m = n
          · subst hmn; rw [lookup_cons_self]; rfl
          · rw [lookup_cons_ne _ _ hmn]; exact hm
    · obtain ⟨cl, e, h1, h2⟩ := clos_eq env r acc fun m hm => h m (.tail _ hm)
      refine ⟨cl, ?_, h1, fun m hm => h2 m ?_⟩
      · rw [List.forIn_cons]
        simp only [hk, Bool.false_eq_true, if_false]
        rw [pure_bind]
        exact e
      · rcases hm with hm | hm
        · rcases List.mem_cons.mp hm with e | hm
          · cases e; exact absurd rfl hk
          · exact .inl hm
        · exact .inr hm
theorem closure_eq {scope : Scope} {env : Env} (h : ∀ n, (n, NameKind.free) ∈ scope.names → ∃ a, env.cells.lookup n = some a) :
    ∃ cl, closureFor scope env = pure cl ∧ (∀ n a, cl.lookup n = some a → env.cells.lookup n = some a) ∧ ∀ n, (n, NameKind.free) ∈ scope.names → (cl.lookup n).isSome = true := by
  obtain ⟨cl, e, h1, h2⟩ := clos_eq env scope.names [] h
  refine ⟨cl, ?_, fun n a hn => (h1 n a hn).elim (fun x => by simp at x) id, fun n hn => h2 n (.inl hn)⟩
  unfold closureFor
  show (forIn scope.names [] _ >>= fun cs => pure cs) = pure cl
  rw [show (forIn scope.names ([] : List (Str × Addr)) fun (x : Str × NameKind) (cs : List (Str × Addr)) => (if (x.2 == .free) = true then do let a ← cellOf env x.1; pure (ForInStep.yield ((x.1, a) :: cs)) else pure (ForInStep.yield cs) : Sem _)) = pure cl from e]
  rfl

/-- a guarded object is let go -/
theorem Sim.dropO {W : Wd} {env : Env} {s : Shared} {a : Addr} {o : Obj} {h' : Heap} {tk : Nat} (S : Sim c W env σ s) (h : W a = .prot o) (hn : ∀ v, o.data ≠ .cell v) (hs : ∀ b x, b ≠ a → s.heap.get? b = some x → h'.get? b = some x) :
    Sim c (W.put a .out) env σ { s with heap := h', toks := tk } := by
  refine ⟨S.1.drop h hs, S.2.turn h (fun b vo hc => ?_) hs⟩
  rintro rfl
  obtain ⟨ob, e1, e2⟩ := hc
  have q := S.1.at_ b
  rw [h] at q
  rw [show s.heap.get? b = some o from q] at e1
  cases e1
  exact hn _ e2
theorem Sim.turnO {W : Wd} {env : Env} {s : Shared} {a : Addr} {o o' : Obj} {h' : Heap} {tk : Nat} (S : Sim c W env σ s) (h : W a = .prot o) (hn : ∀ v, o.data ≠ .cell v) (hs : ∀ b x, b ≠ a → s.heap.get? b = some x → h'.get? b = some x) (e : h'.get? a = some o') :
    Sim c (W.put a (.prot o')) env σ { s with heap := h', toks := tk } := by
  refine ⟨S.1.turn h hs e, S.2.turn h (fun b vo hc => ?_) hs⟩
  rintro rfl
  obtain ⟨ob, e1, e2⟩ := hc
  have q := S.1.at_ b
  rw [h] at q
  rw [show s.heap.get? b = some o from q] at e1
  cases e1
  exact hn _ e2
theorem Le.putT {W W' : Wd} {a : Addr} {r : Role} (h : Le W W') (e : W a = .out) : Le W (W'.put a r) := fun b hb => by
  rw [Wd.put_ne]
  · exact h b hb
  · rintro rfl; exact hb e

theorem ItAt.self {G : Gl} {W : Wd} {s : Shared} {A : Around} {I : Addr} {src : ISrc} {k : Nat} {Q : Value → Shared → Prop} {E : Value → Shared → Prop} (It : ItAt G.w W s.heap I src k) (h : Q (.ref I) s) : wpAny (model G.prog G.w) A (pyIter (.ref I)) Q E s := by
  cases It with
  | lst _ _ _ _ f => exact wpAny_pyIter_listiter f h
  | tup _ _ f => exact wpAny_pyIter_tupleiter f h
  | rng _ f => exact wpAny_pyIter_rangeiter f h
  | cell _ f => exact wpAny_pyIter_listiter f h
  | dct _ _ _ _ f => exact wpAny_pyIter_keyiter f h

/-- the block's context -/
def blk (c : Cx) (scope : Scope) : Cx := ⟨c.G, relS scope c.scope, false, c.n⟩

theorem comp_core {W₁ : Wd} {env : Env} {s₂ : Shared} {A : Around} {elt iter : Expr} {x : Str} {px : Pos} {ifs : List Expr} {scope : Scope} {pos : Pos} {I : Addr} {src : ISrc} {vs : List V} {out : Nat → List V} {cap : List (Str × V)} {cl : List (Str × Addr)} {E : Value → Shared → Prop} {RR : Value → Addr → Result → Shared → Prop}
    (hE : EnvOk c env) (hA : AOk c.n A) (S₂ : Sim c W₁ env σ s₂) (It : ItAt c.G.w W₁ s₂.heap I src 0) (hout : W₁ I = .out) (hitems : Items σ.sto src vs) (hz : vs.length < 1000000)
    (hcl1 : ∀ n a, cl.lookup n = some a → env.cells.lookup n = some a) (hcl2 : ∀ n, (n, NameKind.free) ∈ scope.names → (cl.lookup n).isSome = true)
    (hkind : scope.kind = .function) (hcell : ∀ y ∈ scope.names, y.2 ≠ .cell) (hx : (relS scope c.scope).names.lookup x = some .local)
    (hfree : ∀ n, (n, NameKind.free) ∈ scope.names → c.scope.names.lookup n = some .cell ∨ c.scope.names.lookup n = some .free)
    (hcap : ∀ p ∈ cap, σ.loc.lookup p.1 = some p.2 ∧ (relS scope c.scope).names.lookup p.1 ≠ some .local)
    (h0 : out 0 = [])
    (hitem : ∀ k v, vs[k]? = some v → Tests (blk c scope) ifs ⟨(x, v) :: cap, σ.sto⟩ fun b σ' => if b then Ev (blk c scope) elt σ' fun r σ'' => σ''.sto = σ.sto ∧ Sub cap σ''.loc ∧ out (k + 1) = out k ++ [r] else σ'.sto = σ.sto ∧ Sub cap σ'.loc ∧ out (k + 1) = out k)
    (hRR : ∀ D C s' W' xs n m, s₂.heap.objs.size ≤ D → Le (guardW W₁ s₂.heap) W' → W' D = .prot (lstO xs n) → W' C = .own → s'.heap.Ns C m → SimG c.G W' σ.sto s' → VRs c.G.w W' (out vs.length) xs.toList → W₁ D = .out → W₁ C = .out → RR (.ref D) C (.ok .next) s') :
    wpAny (model c.G.prog c.G.w) A (newList []) (fun acc s₃ => wpAny (model c.G.prog c.G.w) A (newFunctionEnv scope env.globals cl [] env.qual none .none (some env)) (fun cenv s₄ =>
      codeAny (model c.G.prog c.G.w) A (.compStart (.ListComp elt [⟨.Name x px, iter, ifs, 0⟩] scope pos) 0 (.ref I) acc { cenv with scope := relabel scope env }) (RR acc cenv.locals) s₄) E s₃) E s₂ := by
  refine wpAny_newObj_type (wpAny_newFunctionEnv hcell (by intro y hy; simp at hy) (fun h₁ hns hsb => ?_) hkind)
  dsimp only at hns hsb ⊢
  generalize hH : s₂.heap.push { cls := .type "list", dict := none, data := .seq ([] : List Value).toArray } = H at hns hsb ⊢
  have hC : H.objs.size = s₂.heap.objs.size + 1 := by rw [← hH, Heap.size_push]
  generalize hD : s₂.heap.objs.size = D at *
  generalize hCC : H.objs.size = C at *
  have hCD : C ≠ D := by rw [hC]; exact Nat.ne_of_gt (Nat.lt_succ_self _)
  have fr : ∀ a, D ≤ a → s₂.heap.get? a = none := fun a ha => fresh_none _ (by rw [hD]; exact ha)
  have oD : W₁ D = .out := S₂.1.out (fr D (Nat.le_refl _))
  have oC : W₁ C = .out := S₂.1.out (fr C (by rw [hC]; exact Nat.le_succ _))
  have old : ∀ b o, s₂.heap.get? b = some o → h₁.get? b = some o := fun b o e => by
    have hb := Heap.lt_size e
    rw [hD] at hb
    have e1 : H.get? b = some o := by rw [← hH]; exact Heap.get?_push_of_some _ e
    exact hsb.extBut b o (by rw [hC]; exact Nat.ne_of_lt (Nat.lt_succ_of_lt hb)) (Heap.get?_push_of_some _ e1)
  have gD : h₁.get? D = some (lstO #[] 0) := by
    have e1 : H.get? D = some (lstO #[] 0) := by rw [← hH, ← hD]; exact Heap.get?_push_size _ rfl
    exact hsb.extBut D _ (Ne.symm hCD) (Heap.get?_push_of_some _ e1)
  obtain ⟨oI, gI, obI⟩ := It.ob
  have hID : I ≠ D := by rintro rfl; rw [fr _ (Nat.le_refl _)] at gI; cases gI
  have hIC : I ≠ C := by rintro rfl; rw [fr _ (by rw [hC]; exact Nat.le_succ _)] at gI; cases gI
  obtain ⟨oC', _, _, gC, _⟩ := id hns
  -- the world at the head of the loop
  have g0 : SimG c.G (guardW W₁ s₂.heap) σ.sto s₂ := S₂.1.guard
  have g1 : SimG c.G (guardW W₁ s₂.heap) σ.sto { s₂ with heap := h₁, toks := s₂.toks + 0 } := g0.keeps old
  have uD : guardW W₁ s₂.heap D = .out := by rw [guardW_ne (by rw [oD]; exact fun x => by cases x), oD]
  have uC : guardW W₁ s₂.heap C = .out := by rw [guardW_ne (by rw [oC]; exact fun x => by cases x), oC]
  have uI : guardW W₁ s₂.heap I = .out := by rw [guardW_ne (by rw [hout]; exact fun x => by cases x), hout]
  have g2 := g1.prot uD gD
  have g3 := g2.prot (a := I) (o := oI) (by rw [Wd.put_ne _ _ hID]; exact uI) (old _ _ gI)
  have vC : ((guardW W₁ s₂.heap).put D (.prot (lstO #[] 0))).put I (.prot oI) C = .out := by rw [Wd.put_ne _ _ (Ne.symm hIC), Wd.put_ne _ _ hCD]; exact uC
  let W₀ : Wd := (((guardW W₁ s₂.heap).put D (.prot (lstO #[] 0))).put I (.prot oI)).put C .own
  have g4 : SimG c.G W₀ σ.sto { s₂ with heap := h₁, toks := s₂.toks + 0 } := g3.owned (Le.put vC) fun a ha => by
    by_cases e : a = C
    · subst e; exact .inr ⟨Wd.put_self _ _ _, _, gC⟩
    · exact .inl ((Wd.put_ne _ _ e).trans ha)
  have le0 : Le (guardW W₁ s₂.heap) W₀ := (((Le.refl _).putT uD).putT uI).putT uC
  have W0D : W₀ D = .prot (lstO #[] 0) := by show Wd.put _ _ _ D = _; rw [Wd.put_ne _ _ (Ne.symm hCD), Wd.put_ne _ _ (Ne.symm hID), Wd.put_self]
  have W0I : W₀ I = .prot oI := by show Wd.put _ _ _ I = _; rw [Wd.put_ne _ _ hIC, Wd.put_self]
  have W0C : W₀ C = .own := Wd.put_self _ _ _
  let cenv : Env := compEnvC scope cl C env
  have hkd : ∀ y, cenv.kindOf y = (relS scope c.scope).names.lookup y := fun y => by
    show (relabel scope env).names.lookup y = _
    rw [relS_eq, hE.scope]
  have hcE : EnvOk (blk c scope) cenv := by
    refine ⟨?_, ?_, hE.globals, hE.builtins⟩
    · show relabel scope env = _; rw [relS_eq, hE.scope]; rfl
    · show scope.kind = _; exact hkind
  have hrel : ∀ y, ((relS scope c.scope).names.lookup y = some .cell ∨ (relS scope c.scope).names.lookup y = some .free) → (y, NameKind.free) ∈ scope.names := by
    intro y hy
    rw [relS_look] at hy
    cases hl : scope.names.lookup y with
    | none => rw [hl] at hy; rcases hy with hy | hy <;> cases hy
    | some k =>
      rw [hl, Option.map_some] at hy
      have hm := mem_of_lookup hl
      by_cases hb : (k == NameKind.free && c.scope.kind == .function && c.scope.names.lookup y == some .cell) = true
      · simp only [Bool.and_eq_true, beq_iff_eq] at hb
        rw [hb.1.1] at hm; exact hm
      · rw [if_neg hb] at hy
        rcases hy with hy | hy
        · injection hy with hy
          exact absurd hy (hcell _ hm)
        · injection hy with hy
          rw [hy] at hm; exact hm
  have lqg := guardW_q W₁ s₂.heap
  have hkE : ∀ y, env.kindOf y = c.scope.names.lookup y := fun y => by unfold Env.kindOf; rw [hE.scope]
  have guarded : ∀ a, CellRole c.own W₁ a → (∃ vo, s₂.heap.IsCell a vo) → CellRole false W₀ a := fun a f3 ⟨vo, f2⟩ => by
    unfold CellRole
    rw [if_neg (by simp)]
    have key : ∃ o, guardW W₁ s₂.heap a = .prot o := by
      unfold CellRole at f3
      split at f3
      · obtain ⟨o, q, _⟩ := f2
        exact ⟨o, by unfold guardW; rw [f3, q]⟩
      · obtain ⟨o, q⟩ := f3
        exact ⟨o, by rw [guardW_ne (by rw [q]; exact fun x => by cases x)]; exact q⟩
    obtain ⟨o, q⟩ := key
    exact ⟨o, (le0 a (by rw [q]; exact fun x => by cases x)).trans q⟩
  have L0 : LR c.G.w W₀ false cenv cap h₁ := by
    obtain ⟨r1, r2, r3, r4, r5, r6⟩ := S₂.2
    refine ⟨⟨_, hns, fun y v e1 e2 => ?_⟩, W0C, fun y e => ?_, fun y z a e1 e2 => r4 y z a (hcl1 _ _ e1) (hcl1 _ _ e2), fun y a e1 => ?_, fun y a e1 => ?_⟩
    · rw [hkd] at e1
      exact absurd e1 (hcap _ (mem_of_lookup e2)).2
    · rw [hkd] at e
      have hm := hrel y e
      obtain ⟨a, ha⟩ := Option.isSome_iff_exists.mp (hcl2 y hm)
      obtain ⟨b, vo, f1, f2, f3, f4⟩ := r3 y (by rw [hkE]; exact hfree y hm)
      have hab : a = b := by have := hcl1 y a ha; rw [f1] at this; exact (Option.some.inj this).symm
      subst hab
      refine ⟨a, vo, ha, let ⟨o, q, q'⟩ := f2; ⟨o, old _ _ q, q'⟩, guarded a f3 ⟨vo, f2⟩, fun v hv => ?_⟩
      obtain ⟨v', p, q⟩ := f4 v (hcap _ (mem_of_lookup hv)).1
      exact ⟨v', p, (q.mono lqg).mono le0.q⟩
    · obtain ⟨⟨vo, f2⟩, _⟩ := r6 y a (hcl1 y a e1)
      have hb := f2.lt
      rw [hD] at hb
      show a ≠ C
      rw [hC]; exact Nat.ne_of_lt (Nat.lt_succ_of_lt hb)
    · obtain ⟨⟨vo, f2⟩, f3⟩ := r6 y a (hcl1 y a e1)
      exact ⟨⟨vo, let ⟨o, q, q'⟩ := f2; ⟨o, old _ _ q, q'⟩⟩, guarded a f3 ⟨vo, f2⟩⟩
  have It0 : ItAt c.G.w W₀ h₁ I src 0 := (It.mono lqg fun _ e => old _ _ e).mono le0.q fun _ e => e
  have hxOk : Ok (blk c scope) x := .inl hx
  have loop : ∀ s₃ : Shared, s₃ = { s₂ with heap := h₁, toks := s₂.toks + ([] : List (Str × Value)).length } →
      codeAny (model c.G.prog c.G.w) A (.compLoop (.ListComp elt [⟨.Name x px, iter, ifs, 0⟩] scope pos) 0 (.ref I) (.ref D) cenv) (RR (.ref D) C) s₃ := by
    rintro s₃ rfl
    refine codeAny_compLoop_tests (fun n s' => ∃ k W' oI xs m, n = vs.length - k ∧ k ≤ vs.length ∧ (out k).length ≤ k ∧ Le (guardW W₁ s₂.heap) W' ∧ W' D = .prot (lstO xs m) ∧ W' I = .prot oI ∧ ItOb oI ∧ W' C = .own ∧ ItAt c.G.w W' s'.heap I src k ∧ VRs c.G.w W' (out k) xs.toList ∧ Sim (blk c scope) W' cenv ⟨cap, σ.sto⟩ s') ?_ vs.length
      ⟨0, W₀, oI, #[], 0, rfl, Nat.zero_le _, by rw [h0]; exact Nat.le_refl _, le0, W0D, W0I, obI, W0C, It0, by rw [h0]; exact .nil, g4, L0⟩
    rintro n s' ⟨k, W', oI', xs, m, rfl, hk, hlen, hle, hWD, hWI, hob', hWC, hit, rxs, S'⟩
    obtain ⟨_, _, _, nc⟩ := id hob'
    refine hit.next S'.1 (.inl ⟨_, hWI⟩) hA.1 (vs := vs) hitems (fun v y h' tk hv rv hs hit' => ?_) (fun h' tk hl hs => ?_)
    · have hb := (List.getElem?_eq_some_iff.mp hv).1
      obtain ⟨oI2, e2, ob2⟩ := hit'.ob
      have S₃ : Sim (blk c scope) (W'.put I (.prot oI2)) cenv ⟨cap, σ.sto⟩ { s' with heap := h', toks := tk } := S'.turnO hWI nc hs e2
      have lqT : Leq W' (W'.put I (.prot oI2)) := Leq.turn hWI
      have leT : Le (guardW W₁ s₂.heap) (W'.put I (.prot oI2)) := hle.putT uI
      have at4 : ∀ (W6 : Wd) (s6 : Shared) (σ6 : St), Le (W'.put I (.prot oI2)) W6 → Sim (blk c scope) W6 cenv σ6 s6 → σ6.sto = σ.sto → Sub cap σ6.loc → W6 D = .prot (lstO xs m) ∧ W6 I = .prot oI2 ∧ W6 C = .own ∧ ItAt c.G.w W6 s6.heap I src (k + 1) ∧ VRs c.G.w W6 (out k) xs.toList ∧ Sim (blk c scope) W6 cenv ⟨cap, σ.sto⟩ s6 := by
        intro W6 s6 σ6 l6 S6 hst hsub
        have i1 : W6 I = .prot oI2 := by rw [l6 I (by rw [Wd.put_self]; exact fun e => by cases e), Wd.put_self]
        refine ⟨?_, i1, ?_, ?_, (rxs.mono lqT).mono l6.q, ?_⟩
        · rw [l6 D (by rw [Wd.put_ne _ _ (Ne.symm hID), hWD]; exact fun e => by cases e), Wd.put_ne _ _ (Ne.symm hID), hWD]
        · rw [l6 C (by rw [Wd.put_ne _ _ (Ne.symm hIC), hWC]; exact fun e => by cases e), Wd.put_ne _ _ (Ne.symm hIC), hWC]
        · refine (hit'.mono lqT fun _ e => e).mono l6.q fun ob e => ?_
          have q := S6.1.at_ I
          rw [i1] at q
          rw [e2] at e; cases e; exact q
        · obtain ⟨l6', st6⟩ := σ6
          dsimp only at hst hsub
          subst hst
          exact S6.sub hsub
      dsimp only
      have hasg : Asg (blk c scope) (.Name x px) v ⟨cap, σ.sto⟩ fun _ σ' => σ' = ⟨(x, v) :: cap, σ.sto⟩ := Asg_name hxOk rfl
      refine seq1 (c := blk c scope) hasg hcE hA S₃ ⟨y, rv.mono lqT, rfl⟩ fun _ σ₄ W₄ _ s₄ h₄ l₄ _ S₄ => ?_
      subst h₄
      refine seq1 (c := blk c scope) (hitem k v hv) hcE hA S₄ rfl fun b σ₅ W₅ b' s₅ h₅ l₅ r₅ S₅ => ?_
      subst r₅
      cases b
      · simp only [Bool.false_eq_true, if_false] at h₅ ⊢
        obtain ⟨a1, a2, a3, a4, a5, a6⟩ := at4 W₅ s₅ σ₅ (l₄.trans l₅) S₅ h₅.1 h₅.2.1
        exact ⟨vs.length - (k + 1), by omega, k + 1, W₅, oI2, xs, m, rfl, hb, by rw [h₅.2.2]; omega, (leT.trans l₄).trans l₅, a1, a2, ob2, a3, a4, by rw [h₅.2.2]; exact a5, a6⟩
      · simp only [if_true] at h₅ ⊢
        refine seq1 (c := blk c scope) h₅ hcE hA S₅ rfl fun r σ₆ W₆ rx s₆ h₆ l₆ r₆ S₆ => ?_
        obtain ⟨a1, a2, a3, a4, a5, a6⟩ := at4 W₆ s₆ σ₆ ((l₄.trans l₅).trans l₆) S₆ h₆.1 h₆.2.1
        have hD6 := a6.1.at_ D
        rw [a1] at hD6
        refine wpAny_list_append_plain ⟨m, hD6⟩ (fun h7 hp7 hs7 => ?_) (by rw [← Array.length_toList, a5.length, sizeLine_eq]; omega)
        obtain ⟨m7, e7⟩ := hp7
        have off7 : ∀ b z, b ≠ D → s₆.heap.get? b = some z → h7.get? b = some z := fun b z hb e => hs7.extBut b z hb e
        have S₇ : Sim (blk c scope) (W₆.put D (.prot (lstO (xs.push rx) m7))) cenv ⟨cap, σ.sto⟩ { s₆ with heap := h7 } := a6.turnO (tk := s₆.toks) a1 (fun v e => by cases e) off7 e7
        have lq7 : Leq W₆ (W₆.put D (.prot (lstO (xs.push rx) m7))) := Leq.turn a1
        refine ⟨vs.length - (k + 1), by omega, k + 1, _, oI2, xs.push rx, m7, rfl, hb, by rw [h₆.2.2, List.length_append, List.length_singleton]; omega, (((leT.trans l₄).trans l₅).trans l₆).putT uD, Wd.put_self _ _ _, ?_, ob2, ?_, ?_, ?_, S₇⟩
        · rw [Wd.put_ne _ _ hID]; exact a2
        · rw [Wd.put_ne _ _ hCD]; exact a3
        · exact a4.mono lq7 fun ob e => off7 _ _ hID e
        · rw [h₆.2.2, Array.toList_push]
          exact (a5.mono lq7).append (.one (r₆.mono lq7))
    · have hkn : k = vs.length := by omega
      subst hkn
      have S₃ : Sim (blk c scope) (W'.put I .out) cenv ⟨cap, σ.sto⟩ { s' with heap := h', toks := tk } := S'.dropO hWI nc hs
      obtain ⟨⟨m', hm', _⟩, _⟩ := S₃.2
      have lq8 : Leq W' (W'.put I .out) := by
        refine ⟨fun b x e => ?_, fun b x e => ?_⟩
        · rw [Wd.put_ne]
          · exact e
          · rintro rfl; rw [hWI] at e; cases e
        · rw [Wd.put_ne]
          · exact e
          · rintro rfl; rw [hWI] at e; cases e
      exact hRR D C _ (W'.put I .out) xs m m' (Nat.le_refl D) (hle.putT uI) (by rw [Wd.put_ne _ _ (Ne.symm hID)]; exact hWD) (by rw [Wd.put_ne _ _ (Ne.symm hIC)]; exact hWC) hm' S₃.1 (rxs.mono lq8) oD oC
  exact codeAny_compStart_list (loop _ rfl) (It0.self (s := { s₂ with heap := h₁, toks := s₂.toks + 0 }) (loop _ rfl))
end
section
variable {c : Cx} {σ : St}

theorem comp_out {W₁ W' : Wd} {env : Env} {s₂ s' : Shared} {D C : Addr} {xs : Array Value} {n : Nat} {m : Str → Option Value} (rD : Role) (hrD : rD = .froz (lstO xs n) ∨ rD = .out) (S₂ : Sim c W₁ env σ s₂) (hle : Le (guardW W₁ s₂.heap) W') (hWD : W' D = .prot (lstO xs n)) (hWC : W' C = .own)
    (hns : s'.heap.Ns C m) (S' : SimG c.G W' σ.sto s') (oD : W₁ D = .out) (oC : W₁ C = .out) :
    ∃ W₄ o, Sim c W₄ env σ s' ∧ Le W₁ W₄ ∧ W₄ D = rD ∧ W₄ C = .prot o ∧ (∀ v, o.data ≠ .cell v) ∧ Leq W' W₄ := by
  classical
  obtain ⟨o, es, ep, gC, gd, gr⟩ := id hns
  have hCD : C ≠ D := by rintro rfl; rw [hWD] at hWC; cases hWC
  let W₃ : Wd := fun a => if a = D then rD else if a = C then .prot o else match W' a with | .own => .out | r => r
  have w3D : W₃ D = rD := if_pos rfl
  have nD : ∀ i, rD ≠ .cell i := fun i e => by rcases hrD with h | h <;> (rw [h] at e; cases e)
  have w3C : W₃ C = .prot o := by show (if C = D then _ else if C = C then _ else _) = _; rw [if_neg hCD, if_pos rfl]
  have w3 : ∀ a, a ≠ D → a ≠ C → W' a ≠ .own → W₃ a = W' a := fun a h1 h2 h3 => by
    show (if a = D then _ else if a = C then _ else (match W' a with | .own => Role.out | r => r)) = _
    rw [if_neg h1, if_neg h2]; split <;> simp_all
  have w3o : ∀ a, a ≠ D → a ≠ C → W' a = .own → W₃ a = .out := fun a h1 h2 h3 => by
    show (if a = D then _ else if a = C then _ else (match W' a with | .own => Role.out | r => r)) = _
    rw [if_neg h1, if_neg h2, h3]
  have q3 : Leq W' W₃ := by
    refine ⟨fun a x e => ?_, fun a x e => ?_⟩
    · rw [w3 a (by rintro rfl; rw [hWD] at e; cases e) (by rintro rfl; rw [hWC] at e; cases e) (by rw [e]; exact fun x => by cases x)]; exact e
    · rw [w3 a (by rintro rfl; rw [hWD] at e; cases e) (by rintro rfl; rw [hWC] at e; cases e) (by rw [e]; exact fun x => by cases x)]; exact e
  have S₃ : SimG c.G W₃ σ.sto s' := by
    refine ⟨S'.sh, fun b x k => q3.1 b x (S'.base b x k), fun b => ?_, fun x y i hx hy => ?_, fun x i hx => ?_⟩
    · by_cases h1 : b = D
      · subst h1; rw [w3D]; have q := S'.at_ b; rw [hWD] at q; rcases hrD with h | h <;> rw [h]
        · exact q
        · exact trivial
      · by_cases h2 : b = C
        · subst h2; rw [w3C]; exact gC
        · by_cases h3 : W' b = .own
          · rw [w3o b h1 h2 h3]; exact trivial
          · rw [w3 b h1 h2 h3]; exact (S'.at_ b).mono q3 fun _ x => x
    · have key : ∀ z, W₃ z = .cell i → W' z = .cell i := fun z hz => by
        by_cases h1 : z = D
        · subst h1; rw [w3D] at hz; exact absurd hz (nD i)
        · by_cases h2 : z = C
          · subst h2; rw [w3C] at hz; cases hz
          · by_cases h3 : W' z = .own
            · rw [w3o z h1 h2 h3] at hz; cases hz
            · rw [w3 z h1 h2 h3] at hz; exact hz
      exact S'.inj x y i (key x hx) (key y hy)
    · have key : ∀ z, W₃ z = .cell i → W' z = .cell i := fun z hz => by
        by_cases h1 : z = D
        · subst h1; rw [w3D] at hz; exact absurd hz (nD i)
        · by_cases h2 : z = C
          · subst h2; rw [w3C] at hz; cases hz
          · by_cases h3 : W' z = .own
            · rw [w3o z h1 h2 h3] at hz; cases hz
            · rw [w3 z h1 h2 h3] at hz; exact hz
      exact S'.low x i (key x hx)
  have l3 : Le (guardW W₁ s₂.heap) W₃ := fun a e => by
    have h1 : a ≠ D := by rintro rfl; exact e (by rw [guardW_ne (by rw [oD]; exact fun x => by cases x), oD])
    have h2 : a ≠ C := by rintro rfl; exact e (by rw [guardW_ne (by rw [oC]; exact fun x => by cases x), oC])
    rw [w3 a h1 h2 (by rw [hle a e]; exact guardW_no a), hle a e]
  obtain ⟨S₄, l4, q4⟩ := S₂.back l3 S₃
  refine ⟨_, o, S₄, l4, ?_, ?_, (fun v e => by rw [gd] at e; cases e), q3.trans q4⟩
  · rw [backW_ne (by rw [oD]; exact fun x => by cases x)]; exact w3D
  rw [backW_ne (by rw [oC]; exact fun x => by cases x)]; exact w3C

structure CompOk (c : Cx) (scope : Scope) (x : Str) : Prop where
  kind : scope.kind = .function
  cell : scope.names.all (fun y => y.2 != .cell) = true
  names : scope.names.all (fun y => y.2 != .local || scope.names.lookup y.1 == some .local) = true
  x : (relS scope c.scope).names.lookup x = some .local
  free : scope.names.all (fun y => y.2 != .free || c.scope.names.lookup y.1 == some .cell || c.scope.names.lookup y.1 == some .free) = true

/-- what the block's rule asks -/
def CompGoal (c : Cx) (scope : Scope) (elt : Expr) (x : Str) (ifs : List Expr) (Q : V → St → Prop) (a : V) (σ₁ : St) : Prop :=
  ∃ vs src cap, ∃ out : Nat → List V, Src σ₁ a src ∧ Items σ₁.sto src vs ∧ vs.length < 1000000 ∧ (∀ p ∈ cap, σ₁.loc.lookup p.1 = some p.2 ∧ (relS scope c.scope).names.lookup p.1 ≠ some .local) ∧ out 0 = [] ∧
    (∀ k v, vs[k]? = some v → Tests (blk c scope) ifs ⟨(x, v) :: cap, σ₁.sto⟩ fun b σ' => if b then Ev (blk c scope) elt σ' fun r σ'' => σ''.sto = σ₁.sto ∧ Sub cap σ''.loc ∧ out (k + 1) = out k ++ [r] else σ'.sto = σ₁.sto ∧ Sub cap σ'.loc ∧ out (k + 1) = out k) ∧
    Q (.lst (out vs.length)) σ₁

theorem Ev_lc {elt iter : Expr} {x : Str} {px : Pos} {ifs : List Expr} {scope : Scope} {pos : Pos} {Q : V → St → Prop} (hc : CompOk c scope x) (hf : ∀ env y, foldedSetIterable iter env y = pure y)
    (h : Ev c iter σ (CompGoal c scope elt x ifs Q)) : Ev c (.ListComp elt [⟨.Name x px, iter, ifs, 0⟩] scope pos) σ Q := by
  intro W env s A _ hE hA hS hT
  subst hT
  have hkE : ∀ y, env.kindOf y = c.scope.names.lookup y := fun y => by unfold Env.kindOf; rw [hE.scope]
  have hfree : ∀ n, (n, NameKind.free) ∈ scope.names → c.scope.names.lookup n = some .cell ∨ c.scope.names.lookup n = some .free := fun n hn => by
    have := List.all_eq_true.mp hc.free _ hn
    simpa using this
  obtain ⟨cl, e, hcl1, hcl2⟩ := closure_eq (scope := scope) (env := env) fun n hn => by
    obtain ⟨a, vo, f1, _⟩ := hS.2.cells n (by rw [hkE]; exact hfree n hn)
    exact ⟨a, f1⟩
  rw [eval_ListComp]
  refine wpAny_comprehension_free (use := none) rfl (hf env) e hc.kind (fun y hy hl => ?_) (seq1 h hE hA hS rfl fun a σ₁ W₁ ax s₁ h₁ l₁ r₁ S₁ => ?_)
  · have := List.all_eq_true.mp hc.names _ hy
    simp only [hl] at this
    simpa using this
  obtain ⟨vs, src, cap, out, hsrc, hitems, hz, hcap, h0, hitem, q⟩ := h₁
  refine hsrc.iter r₁ S₁ fun I s₂ It hout _ _ S₂ => ?_
  refine comp_core (RR := fun acc C => compPost _ A _ none _ acc C) hE hA S₂ It hout hitems hz hcl1 hcl2 hc.kind (fun y hy => ?_) hc.x hfree hcap h0 hitem fun D C s' W' xs n m _ hle hWD hWC hns S' rxs oD oC => ?_
  · have := List.all_eq_true.mp hc.cell _ hy
    simpa using this
  obtain ⟨W₄, o, S₄, l₄, wD, wC, ho, q₄⟩ := comp_out (.froz (lstO xs n)) (.inl rfl) S₂ hle hWD hWC hns S' oD oC
  refine ⟨m, hns, fun h' hs' => ?_⟩
  have S₅ := S₄.dropO (tk := s'.toks) wC ho fun b x hb e => hs'.extBut b x hb e
  have hCD : D ≠ C := by rintro rfl; rw [wD] at wC; cases wC
  have lq5 : Leq W₄ (W₄.put C .out) := by
    refine ⟨fun b x e => ?_, fun b x e => ?_⟩
    · rw [Wd.put_ne]
      · exact e
      · rintro rfl; rw [wC] at e; cases e
    · rw [Wd.put_ne]
      · exact e
      · rintro rfl; rw [wC] at e; cases e
  exact ⟨_, σ₁, _, q, l₁.trans (l₄.putT oC), .lst (lq5.1 _ _ wD) rfl rfl (rxs.mono (q₄.trans lq5)), S₅⟩

theorem Ev_lcC {elt iter : Expr} {x : Str} {px : Pos} {ifs : List Expr} {scope : Scope} {pos : Pos} {Q : V → St → Prop} (hc : CompOk c scope x) (hf : ∀ env y, foldedSetIterable iter env y = pure y)
    (h : Ev c iter σ (CompGoal c scope elt x ifs fun v σ₁ => ∃ vs, v = .lst vs ∧ Q (.ref σ₁.sto.length) ⟨σ₁.loc, σ₁.sto ++ [.list vs]⟩)) : Ev c (.ListComp elt [⟨.Name x px, iter, ifs, 0⟩] scope pos) σ Q := by
  intro W env s A _ hE hA hS hT
  subst hT
  have hkE : ∀ y, env.kindOf y = c.scope.names.lookup y := fun y => by unfold Env.kindOf; rw [hE.scope]
  have hfree : ∀ n, (n, NameKind.free) ∈ scope.names → c.scope.names.lookup n = some .cell ∨ c.scope.names.lookup n = some .free := fun n hn => by
    have := List.all_eq_true.mp hc.free _ hn
    simpa using this
  obtain ⟨cl, e, hcl1, hcl2⟩ := closure_eq (scope := scope) (env := env) fun n hn => by
    obtain ⟨a, vo, f1, _⟩ := hS.2.cells n (by rw [hkE]; exact hfree n hn)
    exact ⟨a, f1⟩
  rw [eval_ListComp]
  refine wpAny_comprehension_free (use := none) rfl (hf env) e hc.kind (fun y hy hl => ?_) (seq1 h hE hA hS rfl fun a σ₁ W₁ ax s₁ h₁ l₁ r₁ S₁ => ?_)
  · have := List.all_eq_true.mp hc.names _ hy
    simp only [hl] at this
    simpa using this
  obtain ⟨vs, src, cap, out, hsrc, hitems, hz, hcap, h0, hitem, us, hus, q⟩ := h₁
  injection hus with hus
  subst hus
  refine hsrc.iter r₁ S₁ fun I s₂ It hout _ _ S₂ => ?_
  refine comp_core (RR := fun acc C => compPost _ A _ none _ acc C) hE hA S₂ It hout hitems hz hcl1 hcl2 hc.kind (fun y hy => ?_) hc.x hfree hcap h0 hitem fun D C s' W' xs n m hDs hle hWD hWC hns S' rxs oD oC => ?_
  · have := List.all_eq_true.mp hc.cell _ hy
    simpa using this
  obtain ⟨W₃, o, S₃, l₃, wD₃, wC₃, ho, q₃⟩ := comp_out .out (.inr rfl) S₂ hle hWD hWC hns S' oD oC
  have gD : s'.heap.get? D = some (lstO xs n) := by have q := S'.at_ D; rw [hWD] at q; exact q
  have S₄ : Sim c (W₃.put D (.cell σ₁.sto.length)) env ⟨σ₁.loc, σ₁.sto ++ [.list (out vs.length)]⟩ s' := Sim.cell (loc := σ₁.loc) (sto := σ₁.sto) S₃ (Nat.lt_of_lt_of_le S₂.1.top hDs) wD₃ gD (.list (rxs.mono q₃))
  have l₃₄ : Le W₃ (W₃.put D (.cell σ₁.sto.length)) := Le.put wD₃
  have wD : (W₃.put D (.cell σ₁.sto.length)) D = .cell σ₁.sto.length := Wd.put_self _ _ _
  have hCD : C ≠ D := by rintro rfl; rw [hWD] at hWC; cases hWC
  have wC : (W₃.put D (.cell σ₁.sto.length)) C = .prot o := by rw [Wd.put_ne _ _ hCD]; exact wC₃
  have l₄ := l₃.trans l₃₄
  revert S₄ l₄ wD wC
  generalize W₃.put D (.cell σ₁.sto.length) = W₄
  intro S₄ wD wC l₄
  refine ⟨m, hns, fun h' hs' => ?_⟩
  have S₅ := S₄.dropO (tk := s'.toks) wC ho fun b x hb e => hs'.extBut b x hb e
  exact ⟨_, _, _, q, l₁.trans (l₄.putT oC), .ref (by rw [Wd.put_ne _ _ (Ne.symm hCD)]; exact wD), S₅⟩

/-- .. laid into a local name on the statement's own line -/
theorem Ex_asg_lc {elt iter : Expr} {x y : Str} {px py : Pos} {ifs : List Expr} {scope : Scope} {pos spos : Pos} {Q : Fl → St → Prop} (hsw : swapsWith (.ListComp elt [⟨.Name x px, iter, ifs, 0⟩] scope pos) (some (.Name y py)) spos.line (dEnv c.scope) = pure true)
    (hc : CompOk c scope x) (hf : ∀ env y, foldedSetIterable iter env y = pure y) (hy : Ok c y)
    (h : Ev c iter σ (CompGoal c scope elt x ifs fun v σ₁ => Q .next ⟨(y, v) :: σ₁.loc, σ₁.sto⟩)) : Ex c (.Assign [.Name y py] (.ListComp elt [⟨.Name x px, iter, ifs, 0⟩] scope pos) spos) σ Q := by
  intro W env s A _ hE hA hS hT
  subst hT
  have hkE : ∀ y, env.kindOf y = c.scope.names.lookup y := fun y => by unfold Env.kindOf; rw [hE.scope]
  have hfree : ∀ n, (n, NameKind.free) ∈ scope.names → c.scope.names.lookup n = some .cell ∨ c.scope.names.lookup n = some .free := fun n hn => by
    have := List.all_eq_true.mp hc.free _ hn
    simpa using this
  obtain ⟨cl, e, hcl1, hcl2⟩ := closure_eq (scope := scope) (env := env) fun n hn => by
    obtain ⟨a, vo, f1, _⟩ := hS.2.cells n (by rw [hkE]; exact hfree n hn)
    exact ⟨a, f1⟩
  rw [exec_Assign_Name_used _ _ _ _ (by rw [swapsWith_d, hE.scope]; exact hsw)]
  refine wpAny_bind (wpAny_standAt (wpAny_bind ?_))
  show wpAny _ A (do let _ ← comprehension (.ListComp elt [⟨.Name x px, iter, ifs, 0⟩] scope pos) scope env _ (newList []) false (eval iter env) (some (assign (.Name y py) env))) _ _ s
  refine wpAny_bind (wpAny_mono (wpAny_comprehension_free (use := some (assign (.Name y py) env)) (Q := fun _ s' => ∃ b σ' W', Q b σ' ∧ Le W W' ∧ FR c.G.w W' b .next ∧ Sim c W' env σ' s') rfl (hf env) e hc.kind (fun y hy hl => ?_) (seq1 h hE hA hS rfl fun a σ₁ W₁ ax s₁ h₁ l₁ r₁ S₁ => ?_)) (fun _ s' hq => wpAny_pure (wpAny_pure hq)) fun _ _ e => e)
  · have := List.all_eq_true.mp hc.names _ hy
    simp only [hl] at this
    simpa using this
  obtain ⟨vs, src, cap, out, hsrc, hitems, hz, hcap, h0, hitem, q⟩ := h₁
  refine hsrc.iter r₁ S₁ fun I s₂ It hout _ _ S₂ => ?_
  refine comp_core (RR := fun acc C => compPost _ A _ (some (assign (.Name y py) env)) _ acc C) hE hA S₂ It hout hitems hz hcl1 hcl2 hc.kind (fun y hy => ?_) hc.x hfree hcap h0 hitem fun D C s' W' xs n m _ hle hWD hWC hns S' rxs oD oC => ?_
  · have := List.all_eq_true.mp hc.cell _ hy
    simpa using this
  obtain ⟨W₄, o, S₄, l₄, wD, wC, ho, q₄⟩ := comp_out (.froz (lstO xs n)) (.inl rfl) S₂ hle hWD hWC hns S' oD oC
  have rv : VR c.G.w W₄ (.lst (out vs.length)) (.ref D) := .lst wD rfl rfl (rxs.mono q₄)
  show wpAny _ A (assign (.Name y py) env (.ref D)) _ _ _
  have hstore : Asg c (.Name y py) (.lst (out vs.length)) σ₁ fun _ σ' => σ' = ⟨(y, .lst (out vs.length)) :: σ₁.loc, σ₁.sto⟩ := Asg_name hy rfl
  refine seq1 hstore hE hA S₄ ⟨_, rv, rfl⟩ fun _ σ₅ W₅ _ s₅ h₅ l₅ _ S₅ => ?_
  subst h₅
  have wC5 : W₅ C = .prot o := (l₅ C (by rw [wC]; exact fun x => by cases x)).trans wC
  have gC4 := S₄.1.at_ C
  have gC5 := S₅.1.at_ C
  rw [wC] at gC4
  rw [wC5] at gC5
  refine ⟨m, ?_, fun h' hs' => ?_⟩
  · obtain ⟨o1, es, ep, e1, e2⟩ := hns
    rw [show s'.heap.get? C = some o from gC4] at e1
    cases e1
    exact ⟨o, es, ep, gC5, e2⟩
  · have S₆ := S₅.dropO (tk := s₅.toks) wC5 ho fun b x hb e => hs'.extBut b x hb e
    exact ⟨.next, _, _, q, l₁.trans ((l₄.trans l₅).putT oC), .next, S₆⟩
/-- .. the list a place of the store -/
theorem Ex_asg_lcC {elt iter : Expr} {x y : Str} {px py : Pos} {ifs : List Expr} {scope : Scope} {pos spos : Pos} {Q : Fl → St → Prop} (hsw : swapsWith (.ListComp elt [⟨.Name x px, iter, ifs, 0⟩] scope pos) (some (.Name y py)) spos.line (dEnv c.scope) = pure true)
    (hc : CompOk c scope x) (hf : ∀ env y, foldedSetIterable iter env y = pure y) (hy : Ok c y)
    (h : Ev c iter σ (CompGoal c scope elt x ifs fun v σ₁ => ∃ vs, v = .lst vs ∧ Q .next ⟨(y, .ref σ₁.sto.length) :: σ₁.loc, σ₁.sto ++ [.list vs]⟩)) : Ex c (.Assign [.Name y py] (.ListComp elt [⟨.Name x px, iter, ifs, 0⟩] scope pos) spos) σ Q := by
  intro W env s A _ hE hA hS hT
  subst hT
  have hkE : ∀ y, env.kindOf y = c.scope.names.lookup y := fun y => by unfold Env.kindOf; rw [hE.scope]
  have hfree : ∀ n, (n, NameKind.free) ∈ scope.names → c.scope.names.lookup n = some .cell ∨ c.scope.names.lookup n = some .free := fun n hn => by
    have := List.all_eq_true.mp hc.free _ hn
    simpa using this
  obtain ⟨cl, e, hcl1, hcl2⟩ := closure_eq (scope := scope) (env := env) fun n hn => by
    obtain ⟨a, vo, f1, _⟩ := hS.2.cells n (by rw [hkE]; exact hfree n hn)
    exact ⟨a, f1⟩
  rw [exec_Assign_Name_used _ _ _ _ (by rw [swapsWith_d, hE.scope]; exact hsw)]
  refine wpAny_bind (wpAny_standAt (wpAny_bind ?_))
  show wpAny _ A (do let _ ← comprehension (.ListComp elt [⟨.Name x px, iter, ifs, 0⟩] scope pos) scope env _ (newList []) false (eval iter env) (some (assign (.Name y py) env))) _ _ s
  refine wpAny_bind (wpAny_mono (wpAny_comprehension_free (use := some (assign (.Name y py) env)) (Q := fun _ s' => ∃ b σ' W', Q b σ' ∧ Le W W' ∧ FR c.G.w W' b .next ∧ Sim c W' env σ' s') rfl (hf env) e hc.kind (fun y hy hl => ?_) (seq1 h hE hA hS rfl fun a σ₁ W₁ ax s₁ h₁ l₁ r₁ S₁ => ?_)) (fun _ s' hq => wpAny_pure (wpAny_pure hq)) fun _ _ e => e)
  · have := List.all_eq_true.mp hc.names _ hy
    simp only [hl] at this
    simpa using this
  obtain ⟨vs, src, cap, out, hsrc, hitems, hz, hcap, h0, hitem, us, hus, q⟩ := h₁
  injection hus with hus
  subst hus
  refine hsrc.iter r₁ S₁ fun I s₂ It hout _ _ S₂ => ?_
  refine comp_core (RR := fun acc C => compPost _ A _ (some (assign (.Name y py) env)) _ acc C) hE hA S₂ It hout hitems hz hcl1 hcl2 hc.kind (fun y hy => ?_) hc.x hfree hcap h0 hitem fun D C s' W' xs n m hDs hle hWD hWC hns S' rxs oD oC => ?_
  · have := List.all_eq_true.mp hc.cell _ hy
    simpa using this
  obtain ⟨W₃, o, S₃, l₃, wD₃, wC₃, ho, q₃⟩ := comp_out .out (.inr rfl) S₂ hle hWD hWC hns S' oD oC
  have gD : s'.heap.get? D = some (lstO xs n) := by have q := S'.at_ D; rw [hWD] at q; exact q
  have S₄ : Sim c (W₃.put D (.cell σ₁.sto.length)) env ⟨σ₁.loc, σ₁.sto ++ [.list (out vs.length)]⟩ s' := Sim.cell (loc := σ₁.loc) (sto := σ₁.sto) S₃ (Nat.lt_of_lt_of_le S₂.1.top hDs) wD₃ gD (.list (rxs.mono q₃))
  have l₃₄ : Le W₃ (W₃.put D (.cell σ₁.sto.length)) := Le.put wD₃
  have wD : (W₃.put D (.cell σ₁.sto.length)) D = .cell σ₁.sto.length := Wd.put_self _ _ _
  have hCD : C ≠ D := by rintro rfl; rw [hWD] at hWC; cases hWC
  have wC : (W₃.put D (.cell σ₁.sto.length)) C = .prot o := by rw [Wd.put_ne _ _ hCD]; exact wC₃
  have l₄ := l₃.trans l₃₄
  revert S₄ l₄ wD wC
  generalize W₃.put D (.cell σ₁.sto.length) = W₄
  intro S₄ wD wC l₄
  have rv : VR c.G.w W₄ (.ref σ₁.sto.length) (.ref D) := .ref wD
  show wpAny _ A (assign (.Name y py) env (.ref D)) _ _ _
  have hstore : Asg c (.Name y py) (.ref σ₁.sto.length) ⟨σ₁.loc, σ₁.sto ++ [.list (out vs.length)]⟩ fun _ σ' => σ' = ⟨(y, .ref σ₁.sto.length) :: σ₁.loc, σ₁.sto ++ [.list (out vs.length)]⟩ := Asg_name hy rfl
  refine seq1 hstore hE hA S₄ ⟨_, rv, rfl⟩ fun _ σ₅ W₅ _ s₅ h₅ l₅ _ S₅ => ?_
  subst h₅
  have wC5 : W₅ C = .prot o := (l₅ C (by rw [wC]; exact fun x => by cases x)).trans wC
  have gC4 := S₄.1.at_ C
  have gC5 := S₅.1.at_ C
  rw [wC] at gC4
  rw [wC5] at gC5
  refine ⟨m, ?_, fun h' hs' => ?_⟩
  · obtain ⟨o1, es, ep, e1, e2⟩ := hns
    rw [show s'.heap.get? C = some o from gC4] at e1
    cases e1
    exact ⟨o, es, ep, gC5, e2⟩
  · have S₆ := S₅.dropO (tk := s₅.toks) wC5 ho fun b x hb e => hs'.extBut b x hb e
    exact ⟨.next, _, _, q, l₁.trans ((l₄.trans l₅).putT oC), .next, S₆⟩
end
/-! what a call made is let be: its places beyond k become frozen data -/
mutual
inductive Res (s : List MO) (k : Nat) : V → V → Prop
  | none : Res s k .none .none
  | bool (b : Bool) : Res s k (.bool b) (.bool b)
  | int (i : Int) : Res s k (.int i) (.int i)
  | str (x : Str) : Res s k (.str x) (.str x)
  | rng (a b c : Int) : Res s k (.rng a b c) (.rng a b c)
  | con (v : Value) : Res s k (.con v) (.con v)
  | tup {vs ws : List V} : Ress s k vs ws → Res s k (.tup vs) (.tup ws)
  | lst {vs ws : List V} : Ress s k vs ws → Res s k (.lst vs) (.lst ws)
  | dct {ds es : List (V × V)} : DRess s k ds es → Res s k (.dct ds) (.dct es)
  | old {i : Nat} : i < k → Res s k (.ref i) (.ref i)
  | new {i : Nat} {vs ws : List V} : k ≤ i → s[i]? = some (.list vs) → Ress s k vs ws → Res s k (.ref i) (.lst ws)
  | newd {i : Nat} {ds es : List (V × V)} : k ≤ i → s[i]? = some (.dict ds) → DRess s k ds es → Res s k (.ref i) (.dct es)
inductive Ress (s : List MO) (k : Nat) : List V → List V → Prop
  | nil : Ress s k [] []
  | cons {v w : V} {vs ws : List V} : Res s k v w → Ress s k vs ws → Ress s k (v :: vs) (w :: ws)
inductive DRess (s : List MO) (k : Nat) : List (V × V) → List (V × V) → Prop
  | nil : DRess s k [] []
  | cons {x v w : V} {vs ws : List (V × V)} : Res s k v w → DRess s k vs ws → DRess s k ((x, v) :: vs) ((x, w) :: ws)
end
inductive ResM (s : List MO) (k : Nat) : MO → MO → Prop
  | list {vs ws : List V} : Ress s k vs ws → ResM s k (.list vs) (.list ws)
  | dict {ds es : List (V × V)} : DRess s k ds es → ResM s k (.dict ds) (.dict es)
  | tup {vs ws : List V} : Ress s k vs ws → ResM s k (.tup vs) (.tup ws)
  | iter {v w : V} {n : Nat} : Res s k v w → ResM s k (.iter v n) (.iter w n)
  | junk (m : MO) : ResM s k m .junk

mutual
/-- no place from k on is meant -/
def V.lo (k : Nat) : V → Bool
  | .ref i => decide (i < k)
  | .tup vs => los k vs
  | .lst vs => los k vs
  | .dct ds => dlos k ds
  | _ => true
def los (k : Nat) : List V → Bool
  | [] => true
  | v :: vs => v.lo k && los k vs
def dlos (k : Nat) : List (V × V) → Bool
  | [] => true
  | p :: vs => p.2.lo k && dlos k vs
end
mutual
theorem Res.lo {s : List MO} {k : Nat} : ∀ v : V, v.lo k = true → Res s k v v
  | .none, _ => .none
  | .bool b, _ => .bool b
  | .int i, _ => .int i
  | .str x, _ => .str x
  | .rng a b c, _ => .rng a b c
  | .con v, _ => .con v
  | .tup vs, h => .tup (Ress.lo vs (by simpa [V.lo] using h))
  | .lst vs, h => .lst (Ress.lo vs (by simpa [V.lo] using h))
  | .dct ds, h => .dct (DRess.lo ds (by simpa [V.lo] using h))
  | .ref i, h => .old (by simpa [V.lo] using h)
theorem Ress.lo {s : List MO} {k : Nat} : ∀ vs : List V, los k vs = true → Ress s k vs vs
  | [], _ => .nil
  | v :: vs, h => by
    simp only [los, Bool.and_eq_true] at h
    exact .cons (Res.lo v h.1) (Ress.lo vs h.2)
theorem DRess.lo {s : List MO} {k : Nat} : ∀ vs : List (V × V), dlos k vs = true → DRess s k vs vs
  | [], _ => .nil
  | (x, v) :: vs, h => by
    simp only [dlos, Bool.and_eq_true] at h
    exact .cons (Res.lo v h.1) (DRess.lo vs h.2)
end
theorem los_all (k : Nat) (vs : List V) : los k vs = true ↔ ∀ v ∈ vs, v.lo k = true := by
  induction vs with
  | nil => simp [los]
  | cons v vs ih => simp [los, ih]
theorem los_ints (k : Nat) (ns : List Int) : los k (ns.map V.int) = true := by
  rw [los_all]
  intro v hv
  obtain ⟨n, _, rfl⟩ := List.mem_map.mp hv
  rfl

def trimW (W : Wd) (h : Heap) (k : Nat) : Wd := fun a => match W a with
  | .cell i => if i < k then .cell i else match h.get? a with
    | some o => .froz o
    | none => .out
  | r => r
theorem trimW_ne {W : Wd} {h : Heap} {k : Nat} {a : Addr} (e : ∀ i, W a ≠ .cell i) : trimW W h k a = W a := by
  unfold trimW
  split
  · rename_i i q; exact absurd q (e i)
  · rfl
theorem trimW_old {W : Wd} {h : Heap} {k i : Nat} {a : Addr} (e : W a = .cell i) (hi : i < k) : trimW W h k a = .cell i := by
  unfold trimW; rw [e]; exact if_pos hi
theorem trimW_new {W : Wd} {h : Heap} {k i : Nat} {a : Addr} {o : Obj} (e : W a = .cell i) (hi : k ≤ i) (ho : h.get? a = some o) : trimW W h k a = .froz o := by
  unfold trimW; rw [e]
  show (if i < k then _ else _) = _
  rw [if_neg (Nat.not_lt.mpr hi), ho]

section
variable {G : Gl} {W : Wd} {s : Shared} {sto : List MO} {k : Nat}
mutual
theorem Res.vr (S : SimG G W sto s) : ∀ {v u : V} {x : Value}, Res sto k v u → VR G.w W v x → VR G.w (trimW W s.heap k) u x
  | _, _, _, .none, .none => .none
  | _, _, _, .bool b, .bool _ => .bool b
  | _, _, _, .int i, .int _ t => .int i t
  | _, _, _, .str x, .str _ t => .str x t
  | _, _, _, .rng a b c, .rng e => .rng (by rw [trimW_ne (by rw [e]; exact fun _ x => by cases x)]; exact e)
  | _, _, _, .con v, .con _ => .con v
  | _, _, _, .tup r, .tup e q => .tup (by rw [trimW_ne (by rw [e]; exact fun _ x => by cases x)]; exact e) (r.vr S q)
  | _, _, _, .lst r, .lst e a b q => .lst (by rw [trimW_ne (by rw [e]; exact fun _ x => by cases x)]; exact e) a b (r.vr S q)
  | _, _, _, .dct r, .dct e lo q => .dct (by rw [trimW_ne (by rw [e]; exact fun _ x => by cases x)]; exact e) lo (r.vr S q)
  | _, _, _, .old hi, .ref e => .ref (trimW_old e hi)
  | _, _, _, .new hi hs r, .ref (a := a) e => by
    have q := S.at_ a
    rw [e] at q
    obtain ⟨m, o, e1, e2, e3⟩ := q
    rw [hs] at e1; cases e1
    cases e3 with
    | list p => exact .lst (trimW_new e hi e2) rfl rfl (r.vr S p)
  | _, _, _, .newd hi hs r, .ref (a := a) e => by
    have q := S.at_ a
    rw [e] at q
    obtain ⟨m, o, e1, e2, e3⟩ := q
    rw [hs] at e1; cases e1
    cases e3 with
    | dict p => exact .dct (trimW_new e hi e2) (S.low _ _ e) (r.vr S p)
theorem Ress.vr (S : SimG G W sto s) : ∀ {v u : List V} {x : List Value}, Ress sto k v u → VRs G.w W v x → VRs G.w (trimW W s.heap k) u x
  | _, _, _, .nil, .nil => .nil
  | _, _, _, .cons a b, .cons p q => .cons (a.vr S p) (b.vr S q)
theorem DRess.vr (S : SimG G W sto s) : ∀ {v u : List (V × V)} {x : List DictEntry}, DRess sto k v u → DRs G.w W v x → DRs G.w (trimW W s.heap k) u x
  | _, _, _, .nil, .nil => .nil
  | _, _, _, .cons a b, .int p q => .int (a.vr S p) (b.vr S q)
  | _, _, _, .cons a b, .str p q => .str (a.vr S p) (b.vr S q)
end
theorem ResM.mr (S : SimG G W sto s) {m n : MO} {o : Obj} (r : ResM sto k m n) (h : MR G.w W m o) : MR G.w (trimW W s.heap k) n o := by
  cases r with
  | list r => cases h with | list p => exact .list (r.vr S p)
  | dict r => cases h with | dict p => exact .dict (r.vr S p)
  | tup r => cases h with | tup p => exact .tup (r.vr S p)
  | iter r => cases h with | iter a b p => exact .iter a b (r.vr S p)
  | junk m => exact .junk o
end

structure Trim (k : Nat) (s : List MO) (v : V) (s' : List MO) (v' : V) : Prop where
  val : Res s k v v'
  len : s'.length = k
  le : k ≤ s.length
  cell : ∀ i m m', i < k → s[i]? = some m → s'[i]? = some m' → ResM s k m m'

theorem Calls_trim {G : Gl} {n : Nat} {f : Value} {args : List V} {sto : List MO} {Q' Q : V → List MO → Prop} (h : Calls G n f args sto Q') (k : ∀ v s, Q' v s → ∃ v' s', Trim sto.length s v s' v' ∧ Q v' s') : Calls G n f args sto Q := by
  intro W s A xs hno hA hS hx
  refine codeAny_mono (h W s A xs hno hA hS hx) ?_
  rintro r s' ⟨x, v, sto', W', rfl, q, l, hno', rv, S'⟩
  obtain ⟨v', st', T, q'⟩ := k v sto' q
  have lt : ∀ a i, W a = .cell i → i < sto.length := fun a i e => by
    have q := hS.at_ a
    rw [e] at q
    obtain ⟨_, _, e1, _⟩ := q
    exact (List.getElem?_eq_some_iff.mp e1).1
  refine ⟨x, v', st', trimW W' s'.heap sto.length, rfl, q', fun a e => ?_, fun a e => ?_, T.val.vr S' rv, S'.sh, fun b o e => ?_, fun b => ?_, fun x y i hx hy => ?_, fun x i hx => ?_⟩
  · have e1 := l a e
    by_cases h : ∃ i, W a = .cell i
    · obtain ⟨i, hi⟩ := h
      rw [trimW_old (e1.trans hi) (lt a i hi), hi]
    · rw [trimW_ne (fun i hi => h ⟨i, e1.symm.trans hi⟩), e1]
  · unfold trimW at e
    split at e
    · split at e
      · cases e
      · split at e <;> cases e
    · exact hno' a e
  · have e1 := S'.base b o e
    rw [trimW_ne (by rw [e1]; exact fun _ x => by cases x)]; exact e1
  · have q := S'.at_ b
    revert q
    cases e : W' b with
    | cell i =>
      rintro ⟨m, o, e1, e2, e3⟩
      by_cases hi : i < sto.length
      · rw [trimW_old e hi]
        have hb : i < st'.length := by rw [T.len]; exact hi
        exact ⟨_, o, List.getElem?_eq_getElem hb, e2, (T.cell i m _ hi e1 (List.getElem?_eq_getElem hb)).mr S' e3⟩
      · rw [trimW_new e (Nat.not_lt.mp hi) e2]; exact e2
    | _ =>
      intro q
      rw [trimW_ne (by rw [e]; exact fun _ x => by cases x), e]
      exact q
  · have key : ∀ z, trimW W' s'.heap sto.length z = .cell i → W' z = .cell i := fun z hz => by
      cases e : W' z with
      | cell j =>
        by_cases hj : j < sto.length
        · rw [trimW_old e hj] at hz; exact hz
        · unfold trimW at hz
          rw [e] at hz
          simp only [hj, if_false] at hz
          split at hz <;> cases hz
      | _ =>
        rw [trimW_ne (by rw [e]; exact fun _ x => by cases x), e] at hz; cases hz
    exact S'.inj x y i (key x hx) (key y hy)
  · have key : ∀ z, trimW W' s'.heap sto.length z = .cell i → W' z = .cell i := fun z hz => by
      cases e : W' z with
      | cell j =>
        by_cases hj : j < sto.length
        · rw [trimW_old e hj] at hz; exact hz
        · unfold trimW at hz
          rw [e] at hz
          simp only [hj, if_false] at hz
          split at hz <;> cases hz
      | _ =>
        rw [trimW_ne (by rw [e]; exact fun _ x => by cases x), e] at hz; cases hz
    exact S'.low x i (key x hx)
/-- the items go to the targets, first to last -/
def AsgL (c : Cx) (ts : List Expr) (vs : List V) (σ : St) (Q : Unit → St → Prop) : Prop := DoG c σ (fun _ _ _ => True) (fun W env m => ∃ xs, VRs c.G.w W vs xs ∧ m = assignInOrder ((assignEach ts env).map (·.2)) xs) Q

section
variable {c : Cx} {σ : St}
theorem AsgL_nil {Q : Unit → St → Prop} (h : Q () σ) : AsgL c [] [] σ Q := by
  intro W env s A m hE hA hS hT
  obtain ⟨xs, hx, rfl⟩ := hT
  cases hx
  exact wpAny_assignInOrder_none ⟨(), σ, W, h, Le.refl W, trivial, hS⟩
theorem AsgL_cons {t : Expr} {ts : List Expr} {v : V} {vs : List V} {Q : Unit → St → Prop} (hs : isStarred t = false) (h : Asg c t v σ fun _ σ₁ => AsgL c ts vs σ₁ Q) : AsgL c (t :: ts) (v :: vs) σ Q := by
  intro W env s A m hE hA hS hT
  obtain ⟨xs, hx, rfl⟩ := hT
  cases hx with
  | @cons _ x _ xs r rs =>
    have e1 : assignEach (t :: ts) env = (false, assign t env) :: assignEach ts env := by cases t <;> first | rfl | cases hs
    rw [e1]
    exact wpAny_assignInOrder_more (seq1 h hE hA hS ⟨x, r, rfl⟩ fun _ σ₁ W₁ _ s₁ h₁ l₁ _ S₁ => seq1 h₁ hE hA S₁ ⟨xs, rs.mono l₁.q, rfl⟩ fun _ σ₂ W₂ _ s₂ q l₂ _ S₂ => ⟨(), σ₂, W₂, q, l₁.trans l₂, trivial, S₂⟩)
theorem assignEach_len (env : Env) : ∀ ts : List Expr, ts.any isStarred = false → (assignEach ts env).length = ts.length ∧ (assignEach ts env).findIdx? (·.1) = none
  | [], _ => ⟨rfl, rfl⟩
  | t :: ts, h => by
    rw [List.any_cons, Bool.or_eq_false_iff] at h
    have e1 : assignEach (t :: ts) env = (false, assign t env) :: assignEach ts env := by cases t <;> first | rfl | cases h.1
    obtain ⟨a, b⟩ := assignEach_len env ts h.2
    rw [e1]
    refine ⟨by rw [List.length_cons, List.length_cons, a], ?_⟩
    rw [List.findIdx?_cons, b]; rfl
theorem Asg_tup {elts : List Expr} {k : Nat} {p : Pos} {vs : List V} {Q : Unit → St → Prop} (hst : elts.any isStarred = false) (hn : elts.length = vs.length) (h : AsgL c elts vs σ Q) : Asg c (.Tuple elts k p) (.tup vs) σ Q := by
  intro W env s A m hE hA hS hT
  obtain ⟨x, hx, rfl⟩ := hT
  cases hx with
  | @tup a xs n _ e r =>
    have q := hS.1.at_ a
    rw [e] at q
    obtain ⟨a1, a2⟩ := assignEach_len env elts hst
    have hlen := r.length
    rw [Array.length_toList] at hlen
    refine wpAny_assign_Tuple hA.1 ⟨_, q, rfl, n, rfl⟩ (by rw [a1, hn, hlen]) a2 fun h' he => ?_
    have S' : Sim c W env σ { s with heap := h' } := hS.keeps (tk := s.toks) fun b o eb => he b o (Nat.ne_of_lt (Heap.lt_size eb)) eb
    exact seq1 h hE hA S' ⟨_, r, rfl⟩ fun _ σ₂ W₂ _ s₂ q l₂ _ S₂ => ⟨(), σ₂, W₂, q, l₂, trivial, S₂⟩

/-- names bound, last to first -/
def bindAll (loc : List (Str × V)) : List Str → List V → List (Str × V)
  | n :: ns, v :: vs => bindAll ((n, v) :: loc) ns vs
  | _, _ => loc
theorem bind_all {W : Wd} {env : Env} {sto : List MO} {A : Around} {E : Value → Shared → Prop} {Q : Unit → Shared → Prop} (hE : EnvOk c env) (ns : List Str) : ∀ (vs : List V) (xs : List Value) (loc : List (Str × V)) (s : Shared), (∀ n ∈ ns, Ok c n) → Sim c W env ⟨loc, sto⟩ s → VRs c.G.w W vs xs →
    (∀ s', Sim c W env ⟨bindAll loc ns vs, sto⟩ s' → Q () s') → wpAny (model c.G.prog c.G.w) A (assignInOrder (ns.map fun n => bindName env n) xs) Q E s := by
  induction ns with
  | nil =>
    intro vs xs loc s _ S r h
    cases xs with
    | nil => exact wpAny_assignInOrder_none (h s (by rw [show bindAll loc [] vs = loc from rfl]; exact S))
    | cons x xs => exact wpAny_pure (h s (by rw [show bindAll loc [] vs = loc from rfl]; exact S))
  | cons n ns ih =>
    intro vs xs loc s hok S r h
    cases r with
    | nil => exact wpAny_pure (h s S)
    | @cons v x vs xs r rs =>
      rw [List.map_cons]
      refine wpAny_assignInOrder_more (wpAny_bindName (S.storeName hE (hok n (.head _)) r fun s' S' => ?_))
      exact ih vs xs _ s' (fun m hm => hok m (.tail _ hm)) S' rs h
theorem VRs.reverse {w : World} {W : Wd} : ∀ {vs : List V} {xs : List Value}, VRs w W vs xs → VRs w W vs.reverse xs.reverse
  | _, _, .nil => .nil
  | _, _, .cons a b => by rw [List.reverse_cons, List.reverse_cons]; exact b.reverse.append (.one a)
/-- a, b = x, y within a def: the stores go last to first -/
theorem Ex_asgW {elts : List Expr} {k : Nat} {p pos : Pos} {e : Expr} {names : List Str} {Q : Fl → St → Prop} (hs : swapsWithSole [.Tuple elts k p] e pos.line (dEnv c.scope) = pure false) (hw : swappedStores [.Tuple elts k p] e (dEnv c.scope) = pure (some names)) (hok : ∀ n ∈ names, Ok c n)
    (h : Ev c e σ fun v σ₁ => ∃ vs, v = .tup vs ∧ vs.length = names.length ∧ Q .next ⟨bindAll σ₁.loc names.reverse vs.reverse, σ₁.sto⟩) : Ex c (.Assign [.Tuple elts k p] e pos) σ Q := by
  intro W env s A m hE hA hS hT
  subst hT
  refine Assign_Tuple_swapped (names := names) (seq1 h hE hA hS rfl fun v σ₁ W₁ y s₁ h₁ l₁ r₁ S₁ => ?_) (by rw [swapsSole_d, hE.scope]; exact hs) (by rw [swappedStores_d, hE.scope]; exact hw)
  obtain ⟨vs, rfl, hlen, q⟩ := h₁
  cases r₁ with
  | @tup a xs n _ e r =>
    have qa := S₁.1.at_ a
    rw [e] at qa
    have hl := r.length
    rw [Array.length_toList] at hl
    have hn : names.length = xs.size := by rw [← hlen, hl]
    rw [hn]
    refine wpAny_unpackItems_tuple hA.1 ⟨_, qa, rfl, n, rfl⟩ fun h' he => ?_
    have S' : Sim c W₁ env σ₁ { s₁ with heap := h' } := S₁.keeps (tk := s₁.toks) fun b o eb => he b o (Nat.ne_of_lt (Heap.lt_size eb)) eb
    exact bind_all hE _ _ _ _ _ (fun n hn => hok n (List.mem_reverse.mp hn)) S' r.reverse fun s' S'' => ⟨.next, _, W₁, q, l₁, .next, S''⟩

theorem VRs.set {w : World} {W : Wd} {v : V} {x : Value} (rv : VR w W v x) : ∀ {vs : List V} {xs : List Value} (k : Nat), VRs w W vs xs → VRs w W (vs.set k v) (xs.set k x)
  | _, _, _, .nil => .nil
  | _, _, 0, .cons _ b => .cons rv b
  | _, _, k + 1, .cons a b => .cons a (VRs.set rv k b)
theorem list_store {prog : Program} {w : World} {A : Around} {E : Value → Shared → Prop} {s : Shared} {l : Addr} {xs : Array Value} {n : Nat} {k : Int} {t : Tok} {v : Value} {Q : Unit → Shared → Prop} (ho : s.heap.get? l = some (lstO xs n))
    (h0 : 0 ≤ k) (hfit : k < 2 ^ 63) (hn : k < xs.size)
    (hQ : ∀ n', (s.heap.update l (Obj.mapSeq (·.setIfInBounds k.toNat v))).get? l = some (lstO (xs.setIfInBounds k.toNat v) n') → Heap.SameBut l s.heap (s.heap.update l (Obj.mapSeq (·.setIfInBounds k.toNat v))) → Q () { s with heap := s.heap.update l (Obj.mapSeq (·.setIfInBounds k.toNat v)) }) :
    wpAny (model prog w) A (setItem (.ref l) (.int k t) v) Q E s := by
  have hT : s.TypeIs (.ref l) "list" := ⟨_, ho, rfl⟩
  unfold setItem
  try with_reducible refine wpAny_holding ?_
  first | refine wpAny_bind (wpAny_pure ?_) | skip
  refine wpAny_bind (wpAny_sequenceKey hT (by decide) ?_)
  refine wpAny_bind (wpAny_callSpecial?_slot (name := Str.ofString "__setitem__") hT slot_list_setitem (wpAny_call_entry slot_list_setitem hT entry_list_setitem ?_ (args_list_setitem _ _ _)))
  show wpAny _ _ (Builtin.List.listSubscript? (.int k t) >>= _) _ _ s
  refine wpAny_bind (wpAny_listSubscript_int (fitsIndex_of h0 hfit) ?_)
  clear hfit
  obtain ⟨j, rfl⟩ := Int.eq_ofNat_of_zero_le h0
  have hj : j < xs.size := by omega
  show wpAny _ _ ((seqItemAt l j >>= fun r => pure (r.map (j, ·))) >>= _) _ _ s
  refine wpAny_bind (wpAny_bind (wpAny_seqItemAt ho rfl (wpAny_pure ?_)))
  rw [show xs[j]? = some xs[j] from Array.getElem?_eq_getElem hj]
  show wpAny _ _ (setSeqItemAt l j v >>= _) _ _ s
  have hfin : (s.heap.update l (Obj.mapSeq (·.setIfInBounds j v))).get? l = some (lstO (xs.setIfInBounds j v) n) := by
    have e : Obj.mapSeq (·.setIfInBounds j v) (lstO xs n) = lstO (xs.setIfInBounds j v) n := by simp [Obj.mapSeq]
    rw [Heap.get?_update_self _ ho (by rw [e]; rfl), e]
  refine wpAny_bind (wpAny_setSeqItemAt ho rfl ?_)
  first
    | exact wpAny_bind (wpAny_pure (wpAny_pure ⟨.none, rfl, wpAny_pure (hQ _ hfin (Heap.SameBut.update ..))⟩))
    | exact wpAny_pure ⟨.none, rfl, wpAny_pure (hQ _ hfin (Heap.SameBut.update ..))⟩
theorem Set_list {i : Nat} {vs : List V} {k : Int} {v : V} {loc : List (Str × V)} {sto : List MO} {Q : Unit → St → Prop} (hi : sto[i]? = some (.list vs)) (h0 : 0 ≤ k) (hk : k < vs.length) (hz : vs.length < 1000000) (h : Q () ⟨loc, sto.set i (.list (vs.set k.toNat v))⟩) : SetV c (.ref i) (.int k) v ⟨loc, sto⟩ Q := by
  intro W env s A m hE hA hS hT
  obtain ⟨x, y, z, hx, hy, rv_, rfl⟩ := hT
  obtain ⟨t, rfl⟩ := int_of hy
  cases hx with
  | @ref _ a e1 =>
    have q := hS.1.at_ a
    rw [e1] at q
    obtain ⟨m, o, e2, e3, e4⟩ := q
    rw [hi] at e2; cases e2
    cases e4 with
    | @list _ xs n r =>
      have hl := r.length
      rw [Array.length_toList] at hl
      refine list_store e3 h0 (by omega) (by rw [hl]; exact hk) fun n' e' hs => ?_
      exact ⟨(), _, W, h, Le.refl W, trivial, hS.set (tk := s.toks) e1 hs e' (.list (by rw [Array.toList_setIfInBounds]; exact VRs.set rv_ _ r))⟩
end
/-! ranges, blocks over ranges and over lists -/
theorem rsize_up {a b : Int} {n : Nat} (h : b - a = n) : Builtin.Range.rangeSize a b 1 = n := by
  unfold Builtin.Range.rangeSize
  rw [if_pos (by decide)]
  split
  · rw [Int.ediv_one]; omega
  · omega
theorem Src_up {σ : St} {a b : Int} {n : Nat} (ha : -(2 ^ 60) ≤ a) (hb : b ≤ 2 ^ 60) (h : b - a = n) : Src σ (.rng a b 1) (.seq ((List.range n).map fun (k : Nat) => V.int (a + (k : Int) * 1))) :=
  .rng (small_one (by omega) (by omega) (by omega) (by omega)) (rsize_up h)

section
variable {c : Cx} {σ : St}
theorem comp_range {scope : Scope} {elt : Expr} {x : Str} {Q : V → St → Prop} {n : Nat} (cap : List (Str × V)) (f : Nat → V) (hn : n < 1000000) (hcap : ∀ p ∈ cap, σ.loc.lookup p.1 = some p.2 ∧ (relS scope c.scope).names.lookup p.1 ≠ some .local)
    (hitem : ∀ k, k < n → Ev (blk c scope) elt ⟨(x, .int k) :: cap, σ.sto⟩ fun r σ'' => r = f k ∧ σ''.sto = σ.sto ∧ Sub cap σ''.loc) (hQ : Q (.lst ((List.range n).map f)) σ) : CompGoal c scope elt x [] Q (.rng 0 n 1) σ := by
  refine ⟨_, _, cap, fun k => (List.range k).map f, Src_up (n := n) (by decide) (by omega) (by omega), rfl, by simpa using hn, hcap, rfl, fun k v hv => ?_, by simpa using hQ⟩
  have hb := (List.getElem?_eq_some_iff.mp hv).1
  simp only [List.length_map, List.length_range] at hb
  have e : v = .int k := by
    rw [List.getElem?_map, List.getElem?_range hb] at hv
    simp only [Option.map_some, Option.some.injEq] at hv
    rw [← hv]; congr 1; omega
  subst e
  refine Tests_nil ?_
  rw [if_pos rfl]
  refine (hitem k hb).mono fun r σ'' ⟨h1, h2, h3⟩ => ⟨h2, h3, ?_⟩
  dsimp only
  rw [List.range_succ, List.map_append, h1]; rfl
/-- a block over a list, each item taken -/
theorem comp_list {scope : Scope} {elt : Expr} {x : Str} {Q : V → St → Prop} {a : V} {vs : List V} (cap : List (Str × V)) (f : V → V) (ha : ListV σ a vs) (hn : vs.length < 1000000) (hcap : ∀ p ∈ cap, σ.loc.lookup p.1 = some p.2 ∧ (relS scope c.scope).names.lookup p.1 ≠ some .local)
    (hitem : ∀ v, v ∈ vs → Ev (blk c scope) elt ⟨(x, v) :: cap, σ.sto⟩ fun r σ'' => r = f v ∧ σ''.sto = σ.sto ∧ Sub cap σ''.loc) (hQ : Q (.lst (vs.map f)) σ) : CompGoal c scope elt x [] Q a σ := by
  have key : ∃ src, Src σ a src ∧ Items σ.sto src vs := by
    rcases ha with rfl | ⟨i, rfl, hi⟩
    · exact ⟨_, .lst vs, rfl⟩
    · exact ⟨_, .cell hi, hi⟩
  obtain ⟨src, h1, h2⟩ := key
  refine ⟨vs, src, cap, fun k => (vs.take k).map f, h1, h2, hn, hcap, rfl, fun k v hv => ?_, by simpa using hQ⟩
  refine Tests_nil ?_
  rw [if_pos rfl]
  refine (hitem v (List.mem_of_getElem? hv)).mono fun r σ'' ⟨h1, h2, h3⟩ => ⟨h2, h3, ?_⟩
  dsimp only
  rw [List.take_add_one, hv, List.map_append, h1]; rfl
/-- a block over a list, the items taken that pass the test -/
theorem comp_filter {scope : Scope} {elt t : Expr} {x : Str} {Q : V → St → Prop} {a : V} {vs : List V} {src : ISrc} (cap : List (Str × V)) (p : V → Bool) (f : V → V) (ha : Src σ a src) (hi : Items σ.sto src vs) (hn : vs.length < 1000000) (hcap : ∀ p ∈ cap, σ.loc.lookup p.1 = some p.2 ∧ (relS scope c.scope).names.lookup p.1 ≠ some .local)
    (hitem : ∀ v, v ∈ vs → Tst (blk c scope) t ⟨(x, v) :: cap, σ.sto⟩ fun b σ' => b = p v ∧ σ'.sto = σ.sto ∧ Sub cap σ'.loc ∧ (b = true → Ev (blk c scope) elt σ' fun r σ'' => r = f v ∧ σ''.sto = σ.sto ∧ Sub cap σ''.loc)) (hQ : Q (.lst ((vs.filter p).map f)) σ) : CompGoal c scope elt x [t] Q a σ := by
  refine ⟨vs, src, cap, fun k => ((vs.take k).filter p).map f, ha, hi, hn, hcap, rfl, fun k v hv => ?_, by simpa using hQ⟩
  refine Tests_one ((hitem v (List.mem_of_getElem? hv)).mono fun b σ' ⟨h1, h2, h3, h4⟩ => ?_)
  dsimp only
  rw [List.take_add_one, hv]
  simp only [Option.toList_some, List.filter_append, List.map_append]
  cases b
  · rw [if_neg (by simp)]
    exact ⟨h2, h3, by rw [List.filter_cons_of_neg (by rw [← h1]; simp)]; simp⟩
  · rw [if_pos rfl]
    refine (h4 rfl).mono fun r σ'' ⟨g1, g2, g3⟩ => ⟨g2, g3, ?_⟩
    rw [List.filter_cons_of_pos h1.symm, g1]; rfl
end
theorem cap_nil {c : Cx} {σ : St} {scope : Scope} : ∀ p ∈ ([] : List (Str × V)), σ.loc.lookup p.1 = some p.2 ∧ (relS scope c.scope).names.lookup p.1 ≠ some .local := fun _ h => nomatch h
def notLocal (sc : Scope) (x : Str) : Bool := !(sc.names.lookup x == some .local)
theorem cap_cons {c : Cx} {σ : St} {scope : Scope} {x : Str} {v : V} {cap : List (Str × V)} (h : σ.loc.lookup x = some v) (k : notLocal (relS scope c.scope) x = true) (r : ∀ p ∈ cap, σ.loc.lookup p.1 = some p.2 ∧ (relS scope c.scope).names.lookup p.1 ≠ some .local) :
    ∀ p ∈ (x, v) :: cap, σ.loc.lookup p.1 = some p.2 ∧ (relS scope c.scope).names.lookup p.1 ≠ some .local := fun p hp => by
  rcases List.mem_cons.mp hp with rfl | hp
  · refine ⟨h, fun e => ?_⟩
    unfold notLocal at k
    rw [e] at k
    simp at k
  · exact r p hp
theorem Sub.drop {l l' : List (Str × V)} {x : Str} {v : V} (h : Sub l' l) (k : l'.lookup x = none) : Sub l' ((x, v) :: l) := fun p hp => by
  by_cases e : p.1 = x
  · exfalso
    have : (l'.lookup x).isSome = true := by
      have : ∀ l : List (Str × V), p ∈ l → (l.lookup p.1).isSome = true := by
        intro l
        induction l with
        | nil => intro h; cases h
        | cons q r ih =>
          intro h
          obtain ⟨n, u⟩ := q
          by_cases hn : p.1 = n
          · rw [hn, lookup_cons_self]; rfl
          · rw [lookup_cons_ne _ _ hn]
            rcases List.mem_cons.mp h with rfl | h
            · exact absurd rfl hn
            · exact ih h
      rw [← e]; exact this l' hp
    rw [k] at this; cases this
  · rw [lookup_cons_ne _ _ e]; exact h p hp
theorem ints_get (ns : List Int) (k : Nat) (hk : k < ns.length) : itemAt (ns.map V.int) (k : Int) = some (.int ns[k]) := by
  unfold itemAt
  rw [if_pos (by omega)]
  simp [hk]
theorem slc_map {α β : Type} (f : α → β) (xs : List α) (lo hi st : Option Int) : slc (xs.map f) lo hi st = (slc xs lo hi st).map f := by
  unfold slc
  rw [List.length_map, List.map_filterMap]
  congr 1
  funext k
  rw [List.getElem?_map]
theorem ok_ints (n : Nat) (ns : List Int) : (V.lst (ns.map V.int)).ok (n + 1) = true := by
  simp only [V.ok, List.all_map, List.all_eq_true]
  intro x _
  cases n <;> rfl
theorem map_int_inj {xs ys : List Int} : xs.map V.int = ys.map V.int ↔ xs = ys := by
  constructor
  · intro h
    exact (List.map_inj_right (fun a b e => by injection e)).mp h
  · rintro rfl; rfl
/-! cuts -/
theorem pick_run {α : Type} (xs : List α) (a m : Nat) : ((List.range m).map (a + ·)).filterMap (xs[·]?) = (xs.drop a).take m := by
  induction m with
  | zero => rfl
  | succ m ih =>
    rw [List.range_succ, List.map_append, List.filterMap_append, ih, List.take_add_one, List.getElem?_drop]
    cases h : xs[a + m]? with
    | none => simp [h]
    | some x => simp [h]
theorem slc_eq {α : Type} (xs : List α) {lo hi : Option Int} {a b : Nat} (h : sliceBounds lo hi none xs.length = ((a : Int), (b : Int), 1)) : slc xs lo hi none = (xs.drop a).take (b - a) := by
  unfold slc
  rw [h]
  dsimp only
  rw [sliceRange_one, pick_run]
theorem slc_to {α : Type} (xs : List α) (k : Nat) : slc xs none (some (k : Int)) none = xs.take k := by
  rw [slc_eq xs (a := 0) (b := min k xs.length) (by unfold sliceBounds; simp; omega)]
  rw [List.drop_zero, Nat.sub_zero]
  rcases Nat.le_total k xs.length with h | h
  · rw [Nat.min_eq_left h]
  · rw [Nat.min_eq_right h, List.take_of_length_le (Nat.le_refl _), List.take_of_length_le h]
theorem slc_from {α : Type} (xs : List α) (k : Nat) : slc xs (some (k : Int)) none none = xs.drop k := by
  rw [slc_eq xs (a := min k xs.length) (b := xs.length) (by unfold sliceBounds; simp; omega)]
  rcases Nat.le_total k xs.length with h | h
  · rw [Nat.min_eq_left h, List.take_of_length_le (by rw [List.length_drop]; omega)]
  · rw [Nat.min_eq_right h, List.drop_eq_nil_of_le (Nat.le_refl _), List.drop_eq_nil_of_le h, List.take_nil]
theorem slc_mid {α : Type} (xs : List α) (i j : Nat) (hj : j ≤ xs.length) : slc xs (some (i : Int)) (some (j : Int)) none = (xs.take j).drop i := by
  rw [slc_eq xs (a := min i xs.length) (b := j) (by unfold sliceBounds; simp; omega), List.drop_take]
  rcases Nat.le_total i xs.length with h | h
  · rw [Nat.min_eq_left h]
  · rw [Nat.min_eq_right h, List.drop_eq_nil_of_le (Nat.le_refl _), List.drop_eq_nil_of_le h, List.take_nil, List.take_nil]
theorem slc_to_neg {α : Type} (xs : List α) (k : Nat) (hk : 0 < k) : slc xs none (some (-(k : Int))) none = xs.take (xs.length - k) := by
  rw [slc_eq xs (a := 0) (b := xs.length - k) (by unfold sliceBounds; simp [hk]; omega)]
  rw [List.drop_zero, Nat.sub_zero]
theorem slc_rev {α : Type} (xs : List α) : slc xs none none (some (-1)) = xs.reverse := by
  unfold slc
  have e : sliceBounds none none (some (-1)) xs.length = ((xs.length : Int) - 1, -1, -1) := krv_bounds _
  rw [e]
  dsimp only
  rw [krv_sliceRange]
  have e1 : (List.range xs.length).map (fun k => xs.length - 1 - k) = (List.range xs.length).reverse := by
    apply List.ext_getElem
    · simp
    · intro i h1 h2
      simp
  rw [e1, List.filterMap_reverse]
  congr 1
  have := pick_run xs 0 xs.length
  simpa using this
theorem Ev_cut {c : Cx} {e : Expr} {σ : St} {P Q : V → St → Prop} (h : Ev c e σ P) (k : ∀ v σ', P v σ' → Q v σ') : Ev c e σ Q := DoG.mono h k
theorem Ex_cut {c : Cx} {st : Stmt} {σ : St} {P Q : Fl → St → Prop} (h : Ex c st σ P) (k : ∀ v σ', P v σ' → Q v σ') : Ex c st σ Q := DoG.mono h k
theorem Tst_cut {c : Cx} {e : Expr} {σ : St} {P Q : Bool → St → Prop} (h : Tst c e σ P) (k : ∀ v σ', P v σ' → Q v σ') : Tst c e σ Q := DoG.mono h k
theorem Exs_sub {c : Cx} {sts : List Stmt} {l l' : List (Str × V)} {sto : List MO} {Q : Fl → St → Prop} (k : Sub l' l) (h : Exs c sts ⟨l', sto⟩ Q) : Exs c sts ⟨l, sto⟩ Q := DoG.sub h k
theorem Cmp_ne_same {c : Cx} {σ : St} {a b d : V} {Q : V → St → Prop} (ha : Rd σ a d) (hb : Rd σ b d) (h : Q (.bool false) σ) : CmpV c .NotEq a b σ Q :=
  Cmp_ne ha hb fun r hr => by
    cases r
    · exact h
    · exact absurd rfl (hr.mp rfl)
theorem Cmp_eq_same {c : Cx} {σ : St} {a b d : V} {Q : V → St → Prop} (ha : Rd σ a d) (hb : Rd σ b d) (h : Q (.bool true) σ) : CmpV c .Eq a b σ Q :=
  Cmp_eq ha hb fun r hr => by
    cases r
    · exact absurd (hr.mpr rfl) (by simp)
    · exact h
theorem Cmp_nei_same {c : Cx} {σ : St} {a : Int} {Q : V → St → Prop} (h : Q (.bool false) σ) : CmpV c .NotEq (.int a) (.int a) σ Q := Cmp_ne_same (Rd.data rfl) (Rd.data rfl) h
theorem Call_max {c : Cx} {σ : St} {a : V} {ns : List Int} {Q : V → St → Prop} (ha : ListV σ a (ns.map V.int)) (hne : 0 < ns.length) (h : ∀ m, m ∈ ns → (∀ x ∈ ns, x ≤ m) → Q (.int m) σ) : CallV c (.builtin "max") [a] σ Q := by
  intro W env s A m hE hA hS hT
  obtain ⟨xs, hx, rfl⟩ := hT
  obtain ⟨x, rfl, r⟩ := one_of hx
  obtain ⟨l, xs, rfl, hl, rl⟩ := ha.get r hS
  obtain ⟨ps, e1, rfl⟩ := ints_items rl
  have e2 : xs = intItems ps.toArray := by
    apply Array.toList_inj.mp
    rw [e1]; simp [intItems]
  subst e2
  rw [List.length_map] at hne
  have hnum : ∀ i, i < ps.length → numAt ps.toArray i = (ps.map (·.1))[i]?.getD 0 := fun i hi => by simp [numAt]
  refine max_intList hA.1 hl (by simpa using hne) fun v h' tk hv hk => ?_
  have q := argBest_gt (numAt ps.toArray) (ps.toArray.size - 1)
  generalize hb : argBest (fun i j => decide (numAt ps.toArray i > numAt ps.toArray j)) (ps.toArray.size - 1) = b at q hv
  rw [List.size_toArray] at q
  have hbl : b < ps.length := by omega
  obtain ⟨t, rfl⟩ := intItems_at hv
  refine ⟨.int (numAt ps.toArray b), σ, W, h _ ?_ (fun x hx => ?_), Le.refl W, .int _ _, hS.keeps hk⟩
  · rw [hnum b hbl, List.getElem?_eq_getElem (by simpa using hbl), Option.getD_some]
    exact List.getElem_mem _
  · obtain ⟨j, hj, rfl⟩ := List.getElem_of_mem hx
    rw [List.length_map] at hj
    have := q.2 j (by omega)
    rw [hnum j hj, List.getElem?_eq_getElem (by simpa using hj), Option.getD_some] at this
    exact this
/-- a name of the module that stands for data -/
theorem Ev_data {c : Cx} {σ : St} {x : Str} {pos : Pos} {v : Value} {d : V} {Q : V → St → Prop} (hx : c.G.mg x = some v) (hl : isGlob c.scope x = true) (hd : ∀ W : Wd, (∀ a o, c.G.s0.heap.get? a = some o → W a = .froz o) → VR c.G.w W d v) (h : Q d σ) : Ev c (.Name x pos) σ Q := by
  intro W env s A m hE hA hS hT
  refine seq1 (Ev_glob (pos := pos) (Q := fun v' σ' => v' = .con v ∧ σ' = σ) hx hl ⟨rfl, rfl⟩) hE hA hS hT fun v' σ' W' x' s' q l r S => ?_
  obtain ⟨rfl, rfl⟩ := q
  cases r
  exact ⟨d, _, W', h, l, hd W' S.1.base, S⟩
theorem ok_two {c : Cx} {x y : Str} (h : isOk c.scope c.own x = true) (k : isOk c.scope c.own y = true) : ∀ n ∈ [x, y], Ok c n := by
  intro n hn
  rcases List.mem_cons.mp hn with rfl | hn
  · exact Ok.of h
  rcases List.mem_cons.mp hn with rfl | hn
  · exact Ok.of k
  · cases hn
theorem Asg_sub {c : Cx} {e : Expr} {v : V} {l l' : List (Str × V)} {sto : List MO} {Q : Unit → St → Prop} (k : Sub l' l) (h : Asg c e v ⟨l', sto⟩ Q) : Asg c e v ⟨l, sto⟩ Q := DoG.sub h k
/-! dictionaries of the store whose keys are ints -/
section
variable {c : Cx} {σ : St}
theorem Ev_dctC {pos : Pos} {Q : V → St → Prop} (h : Q (.ref σ.sto.length) ⟨σ.loc, σ.sto ++ [.dict []]⟩) : Ev c (.Dict [] [] pos) σ Q := by
  intro W env s A m hE hA hS hT
  subst hT
  obtain ⟨S₂, l₂⟩ := Sim.newCell (o := dctO #[] 0) (m := .dict []) hS rfl (.dict .nil)
  exact wpAny_Dict_empty ⟨_, _, _, h, l₂, .ref (Wd.put_self _ _ _), S₂⟩
/-- a dictionary's cell as the library sees it -/
theorem dict_at {W : Wd} {env : Env} {s : Shared} {i : Nat} {a : Addr} {es : List (Int × V)} (S : Sim c W env σ s) (ha : W a = .cell i) (hi : σ.sto[i]? = some (.dict (ikv es))) (hn : (es.map (·.1)).Nodup) :
    ∃ kvs, IV c.G.w W es kvs ∧ s.heap.DictOf (intKind c.G.prog c.G.w) a kvs := by
  have q := S.1.at_ a
  rw [ha] at q
  obtain ⟨m, o, e1, e2, e3⟩ := q
  rw [hi] at e1; cases e1
  cases e3 with
  | @dict _ ents n r =>
    obtain ⟨kvs, h1, h2, h3⟩ := drs_iv (prog := c.G.prog) r
    exact ⟨kvs, h1, _, ents, n, e2, ⟨rfl, rfl, rfl⟩, rfl, fun e he => h3 e (Array.mem_toList_iff.mpr he), h2, by rw [h1.keys]; exact hn⟩
theorem Set_dict {i : Nat} {es : List (Int × V)} {k : Int} {v : V} {loc : List (Str × V)} {sto : List MO} {Q : Unit → St → Prop} (hi : sto[i]? = some (.dict (ikv es))) (hn : (es.map (·.1)).Nodup) (hz : es.length < 1000000) (h : Q () ⟨loc, sto.set i (.dict (ikv (dput es k v)))⟩) : SetV c (.ref i) (.int k) v ⟨loc, sto⟩ Q := by
  intro W env s A m hE hA hS hT
  obtain ⟨x, y, z, hx, hy, rv_, rfl⟩ := hT
  obtain ⟨t, rfl⟩ := int_of hy
  cases hx with
  | @ref _ a e1 =>
    obtain ⟨kvs, h1, h2⟩ := dict_at hS e1 hi hn
    refine wpAny_setItem_pairs (knd := intKind c.G.prog c.G.w) (k := k) (intKind_is _ _ _ _) h2 (fun h' hd hs => ?_) (by rw [h1.length, sizeLine_eq]; omega)
    obtain ⟨o', ents, ep, ho, ⟨hc1, hc2, hc3⟩, hd', hk, hp, -⟩ := hd
    have ho' : o' = dctO ents ep := by
      obtain ⟨a1, a2, a3, a4⟩ := o'
      dsimp only at hc1 hc2 hc3 hd'
      subst hc1 hc2 hc3 hd'
      rfl
    subst ho'
    exact ⟨(), _, W, h, Le.refl W, trivial, hS.set e1 hs ho (.dict (iv_drs (h1.stored rv_) hp fun e he => hk e (Array.mem_toList_iff.mp he)))⟩
end
theorem value_at {w : World} {W : Wd} {k x : Int} : ∀ {es : List (Int × Int)} {kvs : List (Int × Value)}, IV w W (es.map fun p => (p.1, V.int p.2)) kvs → (es.map (·.1)).Nodup → (k, x) ∈ es → ∃ t, valueAt kvs k = some (.int x t)
  | [], _, _, _, h => nomatch h
  | (j, y) :: es, _, .cons a b, hn, h => by
    cases a
    rename_i t
    rw [List.map_cons, List.nodup_cons] at hn
    rcases List.mem_cons.mp h with e | h
    · cases e
      exact ⟨t, by simp [valueAt]⟩
    · have hj : j ≠ k := by
        rintro rfl
        exact hn.1 (List.mem_map.mpr ⟨_, h, rfl⟩)
      obtain ⟨u, hu⟩ := value_at b hn.2 h
      refine ⟨u, ?_⟩
      unfold valueAt at hu ⊢
      rw [List.find?_cons_of_neg (by simpa using hj)]
      exact hu
theorem hits_same {A : Around} {s : Shared} {w : World} {W : Wd} {all : List (Int × Int)} {kb : List (Int × Value)} (hb : IV w W (all.map fun p => (p.1, V.int p.2)) kb) (hn : (all.map (·.1)).Nodup) : ∀ {es : List (Int × Int)} {ka : List (Int × Value)}, IV w W (es.map fun p => (p.1, V.int p.2)) ka → (∀ p ∈ es, p ∈ all) → KeqHits A s kb ka true
  | [], _, .nil, _ => .nil
  | (k, x) :: es, _, .cons a b, h => by
    cases a
    rename_i t
    obtain ⟨u, hu⟩ := value_at hb hn (h (k, x) (.head _))
    have e := SeqAt.EqAt.int_int (A := A) (s := s) x t x u
    rw [show (x == x) = true from by simp] at e
    have := KeqHits.hit (k := k) (r := _) hu e (hits_same hb hn b fun p hp => h p (.tail _ hp))
    exact this
theorem Cmp_eq_dict {c : Cx} {σ : St} {i j : Nat} {es : List (Int × Int)} {Q : V → St → Prop} (hi : σ.sto[i]? = some (.dict (ikv (es.map fun p => (p.1, V.int p.2))))) (hj : σ.sto[j]? = some (.dict (ikv (es.map fun p => (p.1, V.int p.2))))) (hn : (es.map (·.1)).Nodup)
    (h : Q (.bool true) σ) : CmpV c .Eq (.ref i) (.ref j) σ Q := by
  intro W env s A m hE hA hS hT
  obtain ⟨x, y, hx, hy, rfl⟩ := hT
  have hn' : ((es.map fun p => (p.1, V.int p.2)).map (·.1)).Nodup := by rw [List.map_map]; exact hn
  cases hx with
  | @ref _ a e1 =>
    cases hy with
    | @ref _ b e2 =>
      obtain ⟨ka, h1, h2⟩ := dict_at hS e1 hi hn'
      obtain ⟨kb, h3, h4⟩ := dict_at hS e2 hj hn'
      have la := hS.1.low a _ e1
      have lb := hS.1.low b _ e2
      have na : (a == sysModules) = false := by rw [beq_eq_false_iff_ne]; exact Nat.ne_of_gt la
      have nb : (b == sysModules) = false := by rw [beq_eq_false_iff_ne]; exact Nat.ne_of_gt lb
      refine keq_eq na nb h2 h4 (by have := hA.2.2; show A.units < 9900; omega) (fun _ => hits_same h3 hn h1 fun p hp => hp) ?_
      rw [h1.length, h3.length, Bool.and_true, show ∀ n : Nat, (n == n) = true from fun n => by simp]
      exact ⟨_, σ, W, h, Le.refl W, .bool _, hS⟩
/-! dictionaries whose keys are ints and texts -/
abbrev IK := Int ⊕ Str
def mixIs : IK → Value → Bool
  | .inl i, v => Value.isInt i v
  | .inr x, v => Value.isStrOf x v
def mixHash (w : World) : IK → Int
  | .inl i => hashInt i
  | .inr x => hashStr w x
def mixKind (prog : Program) (w : World) : KeyKind prog w IK where
  is := mixIs
  hash := mixHash w
  inj := fun v a b ha hb => by
    cases a with
    | inl i =>
      obtain ⟨t, rfl⟩ := Value.isInt_shape (ha : Value.isInt i v = true)
      cases b with
      | inl j => exact congrArg Sum.inl (Value.isInt_inj (.int i t) i j ha hb)
      | inr y => exact absurd hb (by simp [mixIs, Value.isStrOf])
    | inr x =>
      obtain ⟨t, rfl⟩ := Value.isStrOf_shape (ha : Value.isStrOf x v = true)
      cases b with
      | inl j => exact absurd hb (by simp [mixIs, Value.isInt])
      | inr y => exact congrArg Sum.inr (Value.isStrOf_inj (.str x t) x y ha hb)
  byValue := fun k v h => by
    cases k with
    | inl i => obtain ⟨t, rfl⟩ := Value.isInt_shape (h : Value.isInt i v = true); rfl
    | inr x => obtain ⟨t, rfl⟩ := Value.isStrOf_shape (h : Value.isStrOf x v = true); rfl
  pyHash := fun {A E s k v Q} hv h => by
    cases k with
    | inl i => obtain ⟨t, rfl⟩ := Value.isInt_shape (hv : Value.isInt i v = true); exact wpAny_pyHash_int h
    | inr x => obtain ⟨t, rfl⟩ := Value.isStrOf_shape (hv : Value.isStrOf x v = true); exact wpAny_pyHash_str h
  eqBool := fun {A E s a b u v Q} hu hv h => by
    cases a with
    | inl i =>
      obtain ⟨t, rfl⟩ := Value.isInt_shape (hu : Value.isInt i u = true)
      cases b with
      | inl j =>
        obtain ⟨t', rfl⟩ := Value.isInt_shape (hv : Value.isInt j v = true)
        have e : decide ((Sum.inl i : IK) = .inl j) = (i == j) := by
          by_cases hij : i = j <;> simp [hij]
        rw [e] at h
        exact wpAny_eqBool_int h
      | inr y =>
        obtain ⟨t', rfl⟩ := Value.isStrOf_shape (hv : Value.isStrOf y v = true)
        have e : decide ((Sum.inl i : IK) = .inr y) = false := by simp
        rw [e] at h
        exact SeqAt.EqAt.int_str i t y t' prog w E Q h
    | inr x =>
      obtain ⟨t, rfl⟩ := Value.isStrOf_shape (hu : Value.isStrOf x u = true)
      cases b with
      | inl j =>
        obtain ⟨t', rfl⟩ := Value.isInt_shape (hv : Value.isInt j v = true)
        have e : decide ((Sum.inr x : IK) = .inl j) = false := by simp
        rw [e] at h
        exact SeqAt.EqAt.str_int x t j t' prog w E Q h
      | inr y =>
        obtain ⟨t', rfl⟩ := Value.isStrOf_shape (hv : Value.isStrOf y v = true)
        have e : decide ((Sum.inr x : IK) = .inr y) = decide (x = y) := by simp
        rw [e] at h
        exact wpAny_eqBool_str h
  «strs» := fun k x t v h => by
    cases k with
    | inl i => exact absurd h (by simp [mixIs, Value.isInt])
    | inr y =>
      obtain ⟨u, hu⟩ := Value.isStrOf_shape (x := y) (v := .str x t) h
      injection hu with hx
      subst hx
      cases v <;> rfl
def kV : IK → V
  | .inl i => .int i
  | .inr x => .str x
/-- the pairs of a dictionary -/
def mkv (es : List (IK × V)) : List (V × V) := es.map fun p => (kV p.1, p.2)
inductive MV (w : World) (W : Wd) : List (IK × V) → List (IK × Value) → Prop
  | nil : MV w W [] []
  | cons {k : IK} {v : V} {x : Value} {l : List (IK × V)} {m : List (IK × Value)} : VR w W v x → MV w W l m → MV w W ((k, v) :: l) ((k, x) :: m)
def MKeys (w : World) (es : List DictEntry) : Prop := ∀ e ∈ es, ∃ k, mixIs k e.key = true ∧ e.hash = mixHash w k
theorem drs_mv {prog : Program} {w : World} {W : Wd} : ∀ {es : List (IK × V)} {ents : List DictEntry}, DRs w W (mkv es) ents → ∃ kvs, MV w W es kvs ∧ Pairs (mixKind prog w) ents kvs ∧ MKeys w ents
  | [], _, h => by cases h; exact ⟨[], .nil, .nil, fun _ h => nomatch h⟩
  | (.inl k, v) :: es, _, h => by
    cases h with
    | @int _ t _ x _ ents' r rs =>
      obtain ⟨kvs, h1, h2, h3⟩ := drs_mv (prog := prog) rs
      refine ⟨(.inl k, x) :: kvs, .cons r h1, .cons (by simp [mixKind, mixIs, Value.isInt]) rfl h2, fun e he => ?_⟩
      rcases List.mem_cons.mp he with rfl | he
      · exact ⟨.inl k, by simp [mixIs, Value.isInt], rfl⟩
      · exact h3 e he
  | (.inr k, v) :: es, _, h => by
    cases h with
    | @str _ t _ x _ ents' r rs =>
      obtain ⟨kvs, h1, h2, h3⟩ := drs_mv (prog := prog) rs
      refine ⟨(.inr k, x) :: kvs, .cons r h1, .cons (by simp [mixKind, mixIs, Value.isStrOf]) rfl h2, fun e he => ?_⟩
      rcases List.mem_cons.mp he with rfl | he
      · exact ⟨.inr k, by simp [mixIs, Value.isStrOf], rfl⟩
      · exact h3 e he
theorem MV.keys {w : World} {W : Wd} : ∀ {es : List (IK × V)} {kvs : List (IK × Value)}, MV w W es kvs → kvs.map (·.1) = es.map (·.1)
  | _, _, .nil => rfl
  | _, _, .cons _ b => by rw [List.map_cons, List.map_cons, b.keys]
theorem MV.find {w : World} {W : Wd} (k : IK) : ∀ {es : List (IK × V)} {kvs : List (IK × Value)}, MV w W es kvs → match (es.find? fun p => p.1 = k) with
    | some p => ∃ x, valueAt kvs k = some x ∧ VR w W p.2 x
    | none => valueAt kvs k = none
  | _, _, .nil => rfl
  | _, _, @MV.cons _ _ j v x l m a b => by
    by_cases h : j = k
    · rw [List.find?_cons_of_pos (by simpa using h)]
      exact ⟨x, by simp [valueAt, h], a⟩
    · rw [List.find?_cons_of_neg (by simpa using h)]
      have e : valueAt ((j, x) :: m) k = valueAt m k := by
        unfold valueAt
        rw [List.find?_cons_of_neg (by simpa using h)]
      rw [e]
      exact b.find k
theorem key_is {prog : Program} {w : World} {W : Wd} {k : IK} {x : Value} (h : VR w W (kV k) x) : (mixKind prog w).is k x = true := by
  cases k with
  | inl i => cases h; simp [mixKind, mixIs, Value.isInt]
  | inr y => cases h; simp [mixKind, mixIs, Value.isStrOf]
section
variable {c : Cx} {σ : St}
theorem dct_at {W : Wd} {env : Env} {s : Shared} {x : Value} {es : List (IK × V)} (S : Sim c W env σ s) (r : VR c.G.w W (.dct (mkv es)) x) (hn : (es.map (·.1)).Nodup) :
    ∃ a kvs, x = .ref a ∧ (a == sysModules) = false ∧ MV c.G.w W es kvs ∧ s.heap.DictOf (mixKind c.G.prog c.G.w) a kvs := by
  cases r with
  | @dct a ents n _ e lo r =>
    obtain ⟨kvs, h1, h2, h3⟩ := drs_mv (prog := c.G.prog) r
    have q := S.1.at_ a
    rw [e] at q
    exact ⟨a, kvs, rfl, by rw [beq_eq_false_iff_ne]; exact Nat.ne_of_gt lo, h1, _, ents, n, q, ⟨rfl, rfl, rfl⟩, rfl, fun e he => h3 e (Array.mem_toList_iff.mpr he), h2, by rw [h1.keys]; exact hn⟩
theorem Cmp_in_dct {k : IK} {es : List (IK × V)} {Q : V → St → Prop} (hn : (es.map (·.1)).Nodup) (h : Q (.bool (es.any fun p => p.1 = k)) σ) : CmpV c .In (kV k) (.dct (mkv es)) σ Q := by
  intro W env s A m hE hA hS hT
  obtain ⟨x, y, hx, hy, rfl⟩ := hT
  obtain ⟨a, kvs, rfl, ha, h1, h2⟩ := dct_at hS hy hn
  refine wpAny_in_of (knd := mixKind c.G.prog c.G.w) (key_is hx) ha h2.mapOf ?_
  have e : (valueAt kvs k).isSome = es.any fun p => p.1 = k := by
    have q := h1.find k
    cases hf : es.find? fun p => p.1 = k with
    | some p =>
      rw [hf] at q
      obtain ⟨x, hx, _⟩ := q
      rw [hx]
      have : (es.any fun p => p.1 = k) = true := List.any_eq_true.mpr ⟨p, List.mem_of_find?_eq_some hf, by simpa using List.find?_some hf⟩
      rw [this]; rfl
    | none =>
      rw [hf] at q
      rw [q]
      have : (es.any fun p => p.1 = k) = false := by
        rw [List.any_eq_false]
        intro p hp
        exact List.find?_eq_none.mp hf p hp
      rw [this]; rfl
  rw [e]
  exact ⟨_, σ, W, h, Le.refl W, .bool _, hS.toks⟩
theorem Sub_dct {value slice : Expr} {k : IK} {es : List (IK × V)} {v : V} {Q : V → St → Prop} (hn : (es.map (·.1)).Nodup) (hv : (es.find? fun p => p.1 = k) = some (k, v)) (h : Q v σ) : SubV c value slice (.dct (mkv es)) (kV k) σ Q := by
  intro W env s A m hE hA hS hT
  obtain ⟨x, y, hx, hy, rfl⟩ := hT
  obtain ⟨a, kvs, rfl, ha, h1, h2⟩ := dct_at hS hx hn
  obtain ⟨ops, hs⟩ := plainSub slice (.ref a) y
  have q := h1.find k
  rw [hv] at q
  obtain ⟨z, hz, rz⟩ := q
  refine tail_any (T := "dict") h2.typeIs slot_dict_getitem.lookup ?_ hs
  refine (wpAny_getItem_of (knd := mixKind c.G.prog c.G.w) (key_is hy) h2.mapOf hz ⟨v, σ, W, h, Le.refl W, rz, hS.toks⟩)
end
/-! a display of pairs -/
inductive PV (w : World) (W : Wd) : List (IK × V) → List (Value × Value) → Prop
  | nil : PV w W [] []
  | cons {k : IK} {v : V} {x y : Value} {l : List (IK × V)} {m : List (Value × Value)} : VR w W (kV k) x → VR w W v y → PV w W l m → PV w W ((k, v) :: l) ((x, y) :: m)
theorem PV.mono {w : World} {W W' : Wd} (q : Leq W W') : ∀ {l : List (IK × V)} {m : List (Value × Value)}, PV w W l m → PV w W' l m
  | _, _, .nil => .nil
  | _, _, .cons a b r => .cons (a.mono q) (b.mono q) (r.mono q)
theorem PV.out {w : World} {W : Wd} (prog : Program) : ∀ {l : List (IK × V)} {m : List (Value × Value)}, PV w W l m → ∃ kvs, Carries (mixKind prog w) m kvs ∧ MV w W l kvs
  | _, _, .nil => ⟨[], trivial, .nil⟩
  | _, _, @PV.cons _ _ k v x y l m a b r => by
    obtain ⟨kvs, h1, h2⟩ := PV.out prog r
    exact ⟨(k, y) :: kvs, ⟨key_is a, rfl, h1⟩, .cons b h2⟩
theorem merged_nodup {K : Type} [DecidableEq K] : ∀ (kvs acc : List (K × Value)), ((acc ++ kvs).map (·.1)).Nodup → merged acc kvs = acc ++ kvs
  | [], acc, _ => by simp [merged]
  | (k, v) :: kvs, acc, h => by
    have e : acc ++ (k, v) :: kvs = (acc ++ [(k, v)]) ++ kvs := by simp
    have hs : stored acc k v = acc ++ [(k, v)] := by
      unfold stored
      rw [if_neg]
      intro hany
      obtain ⟨p, hp, hk⟩ := List.any_eq_true.mp hany
      have hk' : p.1 = k := by simpa using hk
      rw [List.map_append, List.nodup_append] at h
      exact h.2.2 p.1 (List.mem_map.mpr ⟨p, hp, rfl⟩) k (by simp) hk'
    have := merged_nodup kvs (acc ++ [(k, v)]) (by rw [← e]; exact h)
    rw [e, ← this]
    simp only [merged, List.foldl_cons, hs]
theorem mv_drs {prog : Program} {w : World} {W : Wd} : ∀ {es : List (IK × V)} {kvs : List (IK × Value)} {ents : List DictEntry}, MV w W es kvs → Pairs (mixKind prog w) ents kvs → MKeys w ents → DRs w W (mkv es) ents
  | _, _, _, .nil, .nil, _ => .nil
  | _, _, _, @MV.cons _ _ k _ _ _ _ r rs, @Pairs.cons _ _ _ _ _ e _ es _ a b c, hk => by
    obtain ⟨k', h1, h2⟩ := hk e (.head _)
    have hkk : k' = k := (mixKind prog w).inj _ _ _ h1 a
    subst hkk
    have tail := mv_drs rs c fun e he => hk e (.tail _ he)
    obtain ⟨hash, key, val⟩ := e
    dsimp only at h1 h2 b
    subst h2 b
    cases k' with
    | inl i =>
      obtain ⟨t, rfl⟩ := Value.isInt_shape (k := i) h1
      exact .int r tail
    | inr x =>
      obtain ⟨t, rfl⟩ := Value.isStrOf_shape (x := x) h1
      exact .str r tail
def EvPs (c : Cx) (pos : Pos) (pairs : List (Expr × Expr)) (σ : St) (Q : List (IK × V) → St → Prop) : Prop := DoG c σ (fun W es m => PV c.G.w W es m) (fun _ env m => m = evalPairs (pairs.map fun q => (eval q.1 env, do let x ← eval q.2 env; standAt pos; pure x))) Q
section
variable {c : Cx} {σ : St}
theorem EvPs_nil {pos : Pos} {Q : List (IK × V) → St → Prop} (h : Q [] σ) : EvPs c pos [] σ Q := by
  intro W env s A m hE hA hS hT
  subst hT
  exact evalPairs_nil ⟨[], σ, W, h, Le.refl W, .nil, hS⟩
theorem EvPs_cons {pos : Pos} {k v : Expr} {rest : List (Expr × Expr)} {Q : List (IK × V) → St → Prop} (h : Ev c k σ fun kv σ₁ => ∃ key, kv = kV key ∧ Ev c v σ₁ fun vv σ₂ => EvPs c pos rest σ₂ fun es σ₃ => Q ((key, vv) :: es) σ₃) : EvPs c pos ((k, v) :: rest) σ Q := by
  intro W env s A m hE hA hS hT
  subst hT
  refine evalPairs_cons (seq1 h hE hA hS rfl fun kv σ₁ W₁ x s₁ h₁ l₁ r₁ S₁ => ?_)
  obtain ⟨key, rfl, h₁⟩ := h₁
  refine wpAny_bind (seq1 h₁ hE hA S₁ rfl fun vv σ₂ W₂ y s₂ h₂ l₂ r₂ S₂ => wpAny_bind (wpAny_standAt (wpAny_pure ?_)))
  exact seq1 h₂ hE hA S₂ rfl fun es σ₃ W₃ z s₃ q l₃ r₃ S₃ => ⟨_, σ₃, W₃, q, (l₁.trans l₂).trans l₃, .cons (r₁.mono (l₂.trans l₃).q) (r₂.mono l₃.q) r₃, S₃⟩
theorem Ev_dct {keys : List (Option Expr)} {values : List Expr} {pos : Pos} {pairs : List (Expr × Expr)} {Q : V → St → Prop}
    (hshape : ∀ env, (evalEachOpt keys env).zip ((evalEach values env).map fun v => do let x ← v; standAt pos; pure x) = (pairs.map fun q => (eval q.1 env, (do let x ← eval q.2 env; standAt pos; pure x : Sem Value))).map fun p => (some p.1, p.2)) (h0 : pairs ≠ []) (hlen : pairs.length ≤ 15)
    (h : EvPs c pos pairs ⟨σ.loc, σ.sto ++ [.dict []]⟩ fun es σ₁ => σ₁.sto[σ.sto.length]? = some (.dict []) ∧ (es.map (·.1)).Nodup ∧ Q (.ref σ.sto.length) ⟨σ₁.loc, σ₁.sto.set σ.sto.length (.dict (mkv es))⟩) : Ev c (.Dict keys values pos) σ Q := by
  intro W env s A m hE hA hS hT
  subst hT
  obtain ⟨S₂, l₂⟩ := Sim.newCell (o := dctO #[] 0) (m := .dict []) hS rfl (.dict .nil)
  refine wpAny_Dict_pairs (knd := mixKind c.G.prog c.G.w) (hshape env) (by simpa using h0) (by simpa using hlen) ?_
  refine seq1 h hE hA S₂ rfl fun es σ₁ W₁ m s₁ h₁ l₁ r₁ S₁ => ?_
  obtain ⟨hc, hnd, q⟩ := h₁
  obtain ⟨kvs, k1, k2⟩ := PV.out c.G.prog r₁
  have hw : W₁ s.heap.objs.size = .cell σ.sto.length := l₁.q.2 _ _ (Wd.put_self _ _ _)
  have ha := S₁.1.at_ s.heap.objs.size
  rw [hw] at ha
  obtain ⟨m', o, e1, e2, e3⟩ := ha
  rw [hc] at e1; cases e1
  cases e3 with
  | @dict _ ents n r =>
    have he : ents = #[] := by
      cases hl : ents.toList with
      | nil => exact Array.toList_eq_nil_iff.mp hl
      | cons a b => rw [hl] at r; cases r
    subst he
    refine ⟨kvs, k1, ⟨_, _, _, e2, ⟨rfl, rfl, rfl⟩, rfl, fun e he => by simp at he, .nil, List.nodup_nil⟩, fun h' hd hs => ?_⟩
    rw [merged_nodup kvs [] (by rw [List.nil_append, k2.keys]; exact hnd), List.nil_append] at hd
    obtain ⟨o', ents', ep, ho, ⟨hc1, hc2, hc3⟩, hd', hk, hp, -⟩ := hd
    have ho' : o' = dctO ents' ep := by
      obtain ⟨a1, a2, a3, a4⟩ := o'
      dsimp only at hc1 hc2 hc3 hd'
      subst hc1 hc2 hc3 hd'
      rfl
    subst ho'
    exact ⟨_, _, W₁, q, l₂.trans l₁, .ref hw, S₁.set hw hs ho (.dict (mv_drs k2 hp fun e he => hk e (Array.mem_toList_iff.mp he)))⟩
end
theorem VRs.take {w : World} {W : Wd} : ∀ {vs : List V} {xs : List Value} (k : Nat), VRs w W vs xs → VRs w W (vs.take k) (xs.take k)
  | _, _, 0, _ => by rw [List.take_zero, List.take_zero]; exact .nil
  | _, _, k + 1, .nil => .nil
  | _, _, k + 1, .cons a b => by rw [List.take_succ_cons, List.take_succ_cons]; exact .cons a (VRs.take k b)
section
variable {c : Cx} {σ : St}
theorem Call_isi_tup {vs : List V} {Q : V → St → Prop} (h : Q (.bool true) σ) : CallV c (.builtin "isinstance") [.tup vs, .con (.type "tuple")] σ Q := by
  intro W env s A m hE hA hS hT
  obtain ⟨xs, hx, rfl⟩ := hT
  obtain ⟨x, y, rfl, r, r'⟩ := two_of hx
  cases r'
  cases r with
  | @tup a xs n _ e r =>
    have q := hS.1.at_ a
    rw [e] at q
    exact call_isinstance_yes (Tx := "tuple") ⟨_, q, rfl⟩ F.isi_meta_tuple F.sub_tuple_tuple ⟨_, σ, W, h, Le.refl W, .bool _, hS⟩
theorem Call_isi_int {i : Int} {Q : V → St → Prop} (h : Q (.bool false) σ) : CallV c (.builtin "isinstance") [.int i, .con (.type "tuple")] σ Q := by
  intro W env s A m hE hA hS hT
  obtain ⟨xs, hx, rfl⟩ := hT
  obtain ⟨x, y, rfl, r, r'⟩ := two_of hx
  cases r'
  obtain ⟨t, rfl⟩ := int_of r
  exact call_isinstance (isinstance_false_int (by decide +kernel) F.isi_meta_tuple F.sub_int_tuple) ⟨_, σ, W, h, Le.refl W, .bool _, hS.toks⟩
theorem Call_pop {i : Nat} {vs : List V} {v : V} {loc : List (Str × V)} {sto : List MO} {Q : V → St → Prop} (hi : sto[i]? = some (.list (vs ++ [v]))) (hz : vs.length < 1000000) (h : Q v ⟨loc, sto.set i (.list vs)⟩) : CallV c (.builtin "list.pop") [.ref i] ⟨loc, sto⟩ Q := by
  intro W env s A m hE hA hS hT
  obtain ⟨xs, hx, rfl⟩ := hT
  obtain ⟨x, rfl, r⟩ := one_of hx
  cases r with
  | @ref _ a e1 =>
    have q := hS.1.at_ a
    rw [e1] at q
    obtain ⟨m, o, e2, e3, e4⟩ := q
    rw [hi] at e2; cases e2
    cases e4 with
    | @list _ xs n rl =>
      have hl := rl.length
      rw [List.length_append, List.length_singleton, Array.length_toList] at hl
      obtain ⟨y, hy, ry⟩ := rl.get (k := vs.length) (v := v) (by simp)
      have hy' : xs[xs.size - 1]? = some y := by
        rw [show xs.size - 1 = vs.length by omega, ← Array.getElem?_toList]; exact hy
      refine call_meets PySem.F.slot_list_pop ⟨_, e3, rfl⟩ PySem.F.entry_list_pop (PySem.F.args_list_pop_1 _) (MeetsSeq.list_pop_last a xs n y hy' (by rw [sizeLine_eq]; omega)) ?_
      have e6 : ∃ n', Obj.mapSeq (fun ys => ys.eraseIdxIfInBounds (xs.size - 1)) (lstO xs n) = lstO (xs.eraseIdxIfInBounds (xs.size - 1)) n' := ⟨_, rfl⟩
      obtain ⟨n', e6⟩ := e6
      have e7 : (s.heap.update a (Obj.mapSeq fun ys => ys.eraseIdxIfInBounds (xs.size - 1))).get? a = some (lstO (xs.eraseIdxIfInBounds (xs.size - 1)) n') := by
        rw [Heap.get?_update_self _ e3 (by rw [e6]; rfl), e6]
      have e8 : (xs.eraseIdxIfInBounds (xs.size - 1)).toList = xs.toList.take vs.length := by
        rw [Array.eraseIdxIfInBounds, dif_pos (by omega), Array.toList_eraseIdx, show xs.size - 1 = vs.length by omega, List.eraseIdx_eq_take_drop_succ, List.drop_eq_nil_of_le (by rw [Array.length_toList]; omega), List.append_nil]
      have rl' : VRs c.G.w W vs (xs.eraseIdxIfInBounds (xs.size - 1)).toList := by
        rw [e8]
        have := rl.take vs.length
        rwa [List.take_left'  rfl] at this
      exact ⟨e3, v, _, W, h, Le.refl W, ry, hS.set e1 (Heap.SameBut.update ..) e7 (.list rl')⟩
end
theorem shaped_deep {d : V} (h : d.ok 24 = true) : SeqAt.shaped d.pd = true := by
  have l := pd_lay 24 d h
  unfold SeqAt.shaped
  rw [l.1, Bool.true_and]
  exact decide_eq_true (Nat.le_trans l.2 (by decide))
section
variable {c : Cx} {σ : St}
theorem Cmp_eq_deep {d e : V} {Q : V → St → Prop} (hd : d.ok 24 = true) (he : e.ok 24 = true) (h : ∀ r : Bool, (r = true ↔ d = e) → Q (.bool r) σ) : CmpV c .Eq d e σ Q := by
  intro W env s A m hE hA hS hT
  obtain ⟨x, y, hx, hy, rfl⟩ := hT
  obtain ⟨as, ra⟩ := hx.reads hS.1.fz 24 hd
  obtain ⟨bs, rb⟩ := hy.reads hS.1.fz 24 he
  exact eq_dataH ra rb (shaped_deep hd) (shaped_deep he) (by have := hA.2.2; show A.units + 64 < 9900; omega) ⟨_, σ, W, h _ (pd_eqv 24 d e 24 hd he), Le.refl W, .bool _, hS⟩
theorem Cmp_ne_deep {d e : V} {Q : V → St → Prop} (hd : d.ok 24 = true) (he : e.ok 24 = true) (h : ∀ r : Bool, (r = true ↔ d ≠ e) → Q (.bool r) σ) : CmpV c .NotEq d e σ Q := by
  intro W env s A m hE hA hS hT
  obtain ⟨x, y, hx, hy, rfl⟩ := hT
  obtain ⟨as, ra⟩ := hx.reads hS.1.fz 24 hd
  obtain ⟨bs, rb⟩ := hy.reads hS.1.fz 24 he
  refine ne_dataH ra rb (shaped_deep hd) (shaped_deep he) (by have := hA.2.2; show A.units + 64 < 9900; omega) ⟨_, σ, W, h _ ?_, Le.refl W, .bool _, hS⟩
  have q := pd_eqv 24 d e 24 hd he
  rw [ne_eq, ← q]; simp
end
def dctPairs : List (Option Expr) → List Expr → List (Expr × Expr)
  | some k :: ks, v :: vs => (k, v) :: dctPairs ks vs
  | _, _ => []
theorem Ev_dctD {c : Cx} {σ : St} {keys : List (Option Expr)} {values : List Expr} {pos : Pos} {Q : V → St → Prop}
    (hshape : ∀ env, (evalEachOpt keys env).zip ((evalEach values env).map fun v => do let x ← v; standAt pos; pure x) = ((dctPairs keys values).map fun q => (eval q.1 env, (do let x ← eval q.2 env; standAt pos; pure x : Sem Value))).map fun p => (some p.1, p.2)) (h0 : (dctPairs keys values).isEmpty = false) (hlen : Nat.ble (dctPairs keys values).length 15 = true)
    (h : EvPs c pos (dctPairs keys values) ⟨σ.loc, σ.sto ++ [.dict []]⟩ fun es σ₁ => σ₁.sto[σ.sto.length]? = some (.dict []) ∧ (es.map (·.1)).Nodup ∧ Q (.ref σ.sto.length) ⟨σ₁.loc, σ₁.sto.set σ.sto.length (.dict (mkv es))⟩) : Ev c (.Dict keys values pos) σ Q :=
  Ev_dct hshape (fun e => by rw [e] at h0; cases h0) (Nat.le_of_ble_eq_true hlen) h
/-- list + list into a new place of the store -/
theorem Bin_catC {c : Cx} {a b : V} {vs ws : List V} {loc : List (Str × V)} {sto : List MO} {Q : V → St → Prop} (ha : ListV ⟨loc, sto⟩ a vs) (hb : ListV ⟨loc, sto⟩ b ws) (hz : vs.length + ws.length ≤ sizeLine) (h : Q (.ref sto.length) ⟨loc, sto ++ [.list (vs ++ ws)]⟩) : BinV c .Add a b ⟨loc, sto⟩ Q := by
  intro W env s A m hE hA hS hT
  obtain ⟨x, y, hx, hy, rfl⟩ := hT
  obtain ⟨l, xs, rfl, hl, rl⟩ := ha.get hx hS
  obtain ⟨b, ys, rfl, hb, rb⟩ := hb.get hy hS
  obtain ⟨⟨cls, dd, data, sl⟩, ho, hc, n, hd⟩ := id hl
  obtain ⟨⟨cls2, dd2, data2, sl2⟩, ho2, hc2, n2, hd2⟩ := id hb
  simp only at hc hd hc2 hd2
  subst hc hd hc2 hd2
  obtain ⟨S₂, l₂⟩ := Sim.newCell (o := lstO (xs ++ ys) 0) (m := .list (vs ++ ws)) hS rfl (.list (by rw [Array.toList_append]; exact rl.append rb))
  refine concat_meets ⟨_, ho, rfl⟩ ⟨_, ho2, rfl⟩ noFill_list_add seq_list_add PySem.F.slot_list_add PySem.F.entry_list_add (PySem.F.args_list_add_2 _ _) (list_addW l b xs ys n n2 dd dd2 sl sl2 (by rw [← Array.length_toList, ← Array.length_toList, rl.length, rb.length]; exact hz)) ⟨ho, ho2, ?_⟩
  exact ⟨_, _, _, h, l₂, .ref (Wd.put_self _ _ _), S₂⟩
/-! tuples as cells of the store (their identity matters), more on int-key dictionaries, orders -/
section
variable {c : Cx} {σ : St}
theorem Ev_tupC {elts : List Expr} {k : Nat} {pos : Pos} {Q : V → St → Prop} (hn : elts.length < 1000) (h : Evs c elts σ fun vs σ₁ => Q (.ref σ₁.sto.length) ⟨σ₁.loc, σ₁.sto ++ [.tup vs]⟩) : Ev c (.Tuple elts k pos) σ Q := by
  intro W env s A m hE hA hS hT
  subst hT
  refine wpAny_Tuple_spliced (seq1 h hE hA hS ⟨pos, rfl⟩ fun vs σ₁ W₁ xs s₁ h₁ l₁ r₁ S₁ => ⟨?_, ?_⟩)
  · rw [r₁.1.length, r₁.2, sizeLine_eq]; omega
  · obtain ⟨S₂, l₂⟩ := Sim.newCell (o := tupO xs.toArray 0) (m := .tup vs) S₁ rfl (.tup r₁.1)
    exact ⟨_, _, _, h₁, l₁.trans l₂, .ref (Wd.put_self _ _ _), S₂⟩
theorem Asg_tupC {elts : List Expr} {k : Nat} {p : Pos} {i : Nat} {vs : List V} {Q : Unit → St → Prop} (hi : σ.sto[i]? = some (.tup vs)) (hst : elts.any isStarred = false) (hn : elts.length = vs.length) (h : AsgL c elts vs σ Q) : Asg c (.Tuple elts k p) (.ref i) σ Q := by
  intro W env s A m hE hA hS hT
  obtain ⟨x, hx, rfl⟩ := hT
  cases hx with
  | @ref _ a e =>
    have q := hS.1.at_ a
    rw [e] at q
    obtain ⟨m, o, e1, e2, e3⟩ := q
    rw [hi] at e1; cases e1
    cases e3 with
    | @tup _ xs n r =>
      obtain ⟨a1, a2⟩ := assignEach_len env elts hst
      have hlen := r.length
      rw [Array.length_toList] at hlen
      refine wpAny_assign_Tuple hA.1 ⟨_, e2, rfl, n, rfl⟩ (by rw [a1, hn, hlen]) a2 fun h' he => ?_
      have S' : Sim c W env σ { s with heap := h' } := hS.keeps (tk := s.toks) fun b o eb => he b o (Nat.ne_of_lt (Heap.lt_size eb)) eb
      exact seq1 h hE hA S' ⟨_, r, rfl⟩ fun _ σ₂ W₂ _ s₂ q l₂ _ S₂ => ⟨(), σ₂, W₂, q, l₂, trivial, S₂⟩
theorem Sub_tupC {value slice : Expr} {j : Nat} {vs : List V} {i : Nat} {v : V} {Q : V → St → Prop} (hj : σ.sto[j]? = some (.tup vs)) (hz : vs.length < 2 ^ 60) (hi : vs[i]? = some v) (h : Q v σ) : SubV c value slice (.ref j) (.int i) σ Q := by
  intro W env s A m hE hA hS hT
  obtain ⟨x, y, hx, hy, rfl⟩ := hT
  obtain ⟨t, rfl⟩ := int_of hy
  cases hx with
  | @ref _ a e =>
    obtain ⟨ops, hs⟩ := plainSub slice (.ref a) (.int i t)
    have q := hS.1.at_ a
    rw [e] at q
    obtain ⟨m, o, e1, e2, e3⟩ := q
    rw [hj] at e1; cases e1
    cases e3 with
    | @tup _ xs n r =>
      have hl : IsTup s.heap a xs.toList.toArray := ⟨_, e2, rfl, n, by simp⟩
      have hlen := r.length
      have hb := (List.getElem?_eq_some_iff.mp hi).1
      obtain ⟨x, hx, rx⟩ := r.get hi
      rw [Array.length_toList] at hlen
      refine tail_any (T := "tuple") hl.typeIs slot_tuple_getitem.lookup (PyProof.Rows.getItem_tuple hl (by omega) (by omega) (j := i) (x := x) ?_ ?_ ⟨v, σ, W, h, Le.refl W, rx, hS⟩) hs
      · rw [seqIndex_pos (by omega) (by simp; omega)]; simp
      · simpa using hx
theorem Is_ref {i : Nat} {Q : V → St → Prop} (h : Q (.bool true) σ) : CmpV c .Is (.ref i) (.ref i) σ Q := by
  intro W env s A _ hE hA hS hT
  obtain ⟨x, y, hx, hy, rfl⟩ := hT
  cases hx with
  | @ref _ a e1 =>
    cases hy with
    | @ref _ b e2 =>
      have := hS.1.inj a b i e1 e2
      subst this
      exact wpAny_is_ref_self ⟨_, σ, W, h, Le.refl W, .bool _, hS⟩
theorem IsNot_ref {i : Nat} {Q : V → St → Prop} (h : Q (.bool false) σ) : CmpV c .IsNot (.ref i) (.ref i) σ Q := by
  intro W env s A _ hE hA hS hT
  obtain ⟨x, y, hx, hy, rfl⟩ := hT
  cases hx with
  | @ref _ a e1 =>
    cases hy with
    | @ref _ b e2 =>
      have := hS.1.inj a b i e1 e2
      subst this
      exact wpAny_isNot_ref_self ⟨_, σ, W, h, Le.refl W, .bool _, hS⟩
theorem IV.find {w : World} {W : Wd} (k : Int) : ∀ {es : List (Int × V)} {kvs : List (Int × Value)}, IV w W es kvs → match (es.find? fun p => p.1 = k) with
    | some p => ∃ x, valueAt kvs k = some x ∧ VR w W p.2 x
    | none => valueAt kvs k = none
  | _, _, .nil => rfl
  | _, _, @IV.cons _ _ j v x l m a b => by
    by_cases h : j = k
    · rw [List.find?_cons_of_pos (by simpa using h)]
      exact ⟨x, by simp [valueAt, h], a⟩
    · rw [List.find?_cons_of_neg (by simpa using h)]
      have e : valueAt ((j, x) :: m) k = valueAt m k := by
        unfold valueAt
        rw [List.find?_cons_of_neg (by simpa using h)]
      rw [e]
      exact b.find k
theorem IV.some {w : World} {W : Wd} (k : Int) {es : List (Int × V)} {kvs : List (Int × Value)} (h1 : IV w W es kvs) : (valueAt kvs k).isSome = es.any fun p => p.1 = k := by
  have q := h1.find k
  cases hf : es.find? fun p => p.1 = k with
  | some p =>
    rw [hf] at q
    obtain ⟨x, hx, _⟩ := q
    rw [hx]
    have : (es.any fun p => p.1 = k) = true := List.any_eq_true.mpr ⟨p, List.mem_of_find?_eq_some hf, by simpa using List.find?_some hf⟩
    rw [this]; rfl
  | none =>
    rw [hf] at q
    rw [q]
    have : (es.any fun p => p.1 = k) = false := by
      rw [List.any_eq_false]
      intro p hp
      exact List.find?_eq_none.mp hf p hp
    rw [this]; rfl
theorem Cmp_in_dic {i : Nat} {k : Int} {es : List (Int × V)} {Q : V → St → Prop} (hi : σ.sto[i]? = some (.dict (ikv es))) (hn : (es.map (·.1)).Nodup) (h : Q (.bool (es.any fun p => p.1 = k)) σ) : CmpV c .In (.int k) (.ref i) σ Q := by
  intro W env s A m hE hA hS hT
  obtain ⟨x, y, hx, hy, rfl⟩ := hT
  obtain ⟨t, rfl⟩ := int_of hx
  cases hy with
  | @ref _ a e =>
    obtain ⟨kvs, h1, h2⟩ := dict_at hS e hi hn
    have la := hS.1.low a _ e
    refine wpAny_in_of (knd := intKind c.G.prog c.G.w) (intKind_is _ _ _ _) (by rw [beq_eq_false_iff_ne]; exact Nat.ne_of_gt la) h2.mapOf ?_
    rw [h1.some]
    exact ⟨_, σ, W, h, Le.refl W, .bool _, hS.toks⟩
theorem Cmp_nin_dic {i : Nat} {k : Int} {es : List (Int × V)} {Q : V → St → Prop} (hi : σ.sto[i]? = some (.dict (ikv es))) (hn : (es.map (·.1)).Nodup) (h : Q (.bool (!(es.any fun p => p.1 = k))) σ) : CmpV c .NotIn (.int k) (.ref i) σ Q := by
  intro W env s A m hE hA hS hT
  obtain ⟨x, y, hx, hy, rfl⟩ := hT
  obtain ⟨t, rfl⟩ := int_of hx
  cases hy with
  | @ref _ a e =>
    obtain ⟨kvs, h1, h2⟩ := dict_at hS e hi hn
    have la := hS.1.low a _ e
    refine wpAny_notIn_of (knd := intKind c.G.prog c.G.w) (intKind_is _ _ _ _) (by rw [beq_eq_false_iff_ne]; exact Nat.ne_of_gt la) h2.mapOf ?_
    rw [h1.some]
    exact ⟨_, σ, W, h, Le.refl W, .bool _, hS.toks⟩
theorem Sub_dic {value slice : Expr} {i : Nat} {k : Int} {es : List (Int × V)} {v : V} {Q : V → St → Prop} (hi : σ.sto[i]? = some (.dict (ikv es))) (hn : (es.map (·.1)).Nodup) (hv : (es.find? fun p => p.1 = k) = some (k, v)) (h : Q v σ) : SubV c value slice (.ref i) (.int k) σ Q := by
  intro W env s A m hE hA hS hT
  obtain ⟨x, y, hx, hy, rfl⟩ := hT
  obtain ⟨t, rfl⟩ := int_of hy
  cases hx with
  | @ref _ a e =>
    obtain ⟨kvs, h1, h2⟩ := dict_at hS e hi hn
    obtain ⟨ops, hs⟩ := plainSub slice (.ref a) (.int k t)
    have q := h1.find k
    rw [hv] at q
    obtain ⟨z, hz, rz⟩ := q
    refine tail_any (T := "dict") h2.typeIs slot_dict_getitem.lookup ?_ hs
    exact wpAny_getItem_of (knd := intKind c.G.prog c.G.w) (intKind_is _ _ _ _) h2.mapOf hz ⟨v, σ, W, h, Le.refl W, rz, hS.toks⟩
end
/-! the sort's questions, answered by distinct numbers -/
section
open PySem.W
def SrtP (key : Nat → Nat) (p : Array Nat) (m : Nat) : Prop := ∀ i j, i < j → j < m → key (p.getD i 0) < key (p.getD j 0)
def DecP (key : Nat → Nat) (p : Array Nat) (m : Nat) : Prop := ∀ i j, i < j → j < m → key (p.getD j 0) < key (p.getD i 0)
/-- p lays the numbers below n in some order -/
def OrdP (n : Nat) (p : Array Nat) : Prop := p.toList.Perm (List.range n)
theorem OrdP.size {n : Nat} {p : Array Nat} (h : OrdP n p) : p.size = n := by
  have := h.length_eq
  rwa [Array.length_toList, List.length_range] at this
theorem OrdP.lt {n : Nat} {p : Array Nat} (h : OrdP n p) {i : Nat} (hi : i < n) : p.getD i 0 < n := by
  have hs := h.size
  have e : p.getD i 0 = p[i]'(by omega) := by simp [Array.getD, show i < p.size by omega]
  rw [e]
  exact List.mem_range.mp (h.mem_iff.mp (by simp))
theorem OrdP.ne {n : Nat} {p : Array Nat} (h : OrdP n p) {i j : Nat} (hi : i < n) (hj : j < n) (hne : i ≠ j) : p.getD i 0 ≠ p.getD j 0 := by
  have hs := h.size
  have nd : p.toList.Nodup := h.nodup_iff.mpr List.nodup_range
  have e1 : p.getD i 0 = p.toList[i]'(by simp; omega) := by simp [Array.getD, show i < p.size by omega]
  have e2 : p.getD j 0 = p.toList[j]'(by simp; omega) := by simp [Array.getD, show j < p.size by omega]
  rw [e1, e2]
  intro e
  exact hne ((List.getElem_inj nd).mp e)
theorem OrdP.perm {n : Nat} {p q : Array Nat} (h : OrdP n p) (k : q.Perm p) : OrdP n q := (Array.perm_iff_toList_perm.mp k).trans h
theorem getD_rev {p : Array Nat} {m k : Nat} (hm : m ≤ p.size) (hk : k < m) : (kas_rev p 0 m).getD k 0 = p.getD (m - 1 - k) 0 := by
  have e := getElem?_mirror_all (xs := p) (i := 0) hm k
  rw [if_pos ⟨Nat.zero_le _, hk⟩, show 0 + m - 1 - k = m - 1 - k by omega] at e
  show (mirror p 0 m ((m - 0) / 2)).getD k 0 = _
  rw [Array.getD_eq_getD_getElem?, e, Array.getD_eq_getD_getElem?]
theorem getD_bubble {p : Array Nat} {k l i : Nat} (hk : k < p.size) (hl : l ≤ k) : (bubble p k (k - l)).getD i 0 = if i = l then p.getD k 0 else if l < i ∧ i ≤ k then p.getD (i - 1) 0 else p.getD i 0 := by
  have e := getElem?_bubble hk (k - l) (by omega) i
  rw [show k - (k - l) = l by omega] at e
  simp only [Array.getD_eq_getD_getElem?, e]
  split
  · rfl
  · split <;> rfl
section
variable {cmp : Nat → Nat → (Bool → Shared → Prop) → Shared → Prop} {key : Nat → Nat} {n : Nat} {s : Shared}
variable (hc : ∀ i j C, i < n → j < n → C (decide (key i < key j)) s → cmp i j C s) (hk : ∀ i j, i < n → j < n → i ≠ j → key i ≠ key j)
include hc hk
theorem ordP_key {p : Array Nat} (hp : OrdP n p) {i j : Nat} (hi : i < n) (hj : j < n) (hne : i ≠ j) : key (p.getD i 0) ≠ key (p.getD j 0) := hk _ _ (hp.lt hi) (hp.lt hj) (hp.ne hi hj hne)
theorem kas_asc_srt {p : Array Nat} (hp : OrdP n p) {G : Nat → Shared → Prop} : ∀ (f m : Nat), 1 ≤ m → m + f ≤ n → SrtP key p m →
    (∀ m', m ≤ m' → m' ≤ m + f → SrtP key p m' → (m' < m + f → key (p.getD m' 0) < key (p.getD (m' - 1) 0)) → G m' s) → (kas_asc p f m).kasWp cmp G s
  | 0, m, _, _, hs, h => h m (Nat.le_refl _) (Nat.le_refl _) hs fun e => absurd e (Nat.lt_irrefl _)
  | f + 1, m, h1, h2, hs, h => by
    show cmp _ _ _ s
    refine hc _ _ _ (hp.lt (by omega)) (hp.lt (by omega)) ?_
    dsimp only
    by_cases hlt : key (p.getD m 0) < key (p.getD (m - 1) 0)
    · rw [decide_eq_true hlt, if_pos rfl]
      exact h m (Nat.le_refl _) (by omega) hs fun _ => hlt
    · rw [decide_eq_false hlt, if_neg (by decide)]
      have hne := ordP_key hc hk hp (show m < n by omega) (show m - 1 < n by omega) (by omega)
      refine kas_asc_srt hp f (m + 1) (by omega) (by omega) (fun i j hij hj => ?_) fun m' a1 a2 a3 a4 => h m' (by omega) (by omega) a3 fun e => a4 (by omega)
      by_cases hjm : j < m
      · exact hs i j hij hjm
      · obtain rfl : j = m := by omega
        by_cases hi : i = j - 1
        · subst hi; omega
        · have := hs i (j - 1) (by omega) (by omega); omega
theorem kas_desc_srt {p : Array Nat} (hp : OrdP n p) {G : Array Nat × Nat × Nat → Shared → Prop} : ∀ (f m : Nat), 2 ≤ m → m + f ≤ n → DecP key p m →
    (∀ m', m ≤ m' → m' ≤ m + f → DecP key p m' → G (p, m', 0) s) → (kas_desc f p m 0).kasWp cmp G s
  | 0, m, _, _, hs, h => h m (Nat.le_refl _) (Nat.le_refl _) hs
  | f + 1, m, h1, h2, hs, h => by
    show cmp _ _ _ s
    refine hc _ _ _ (hp.lt (by omega)) (hp.lt (by omega)) ?_
    dsimp only
    by_cases hlt : key (p.getD m 0) < key (p.getD (m - 1) 0)
    · rw [decide_eq_true hlt, if_pos rfl, if_neg (by decide)]
      refine kas_desc_srt hp f (m + 1) (by omega) (by omega) (fun i j hij hj => ?_) fun m' a1 a2 a3 => h m' (by omega) (by omega) a3
      by_cases hjm : j < m
      · exact hs i j hij hjm
      · obtain rfl : j = m := by omega
        by_cases hi : i = j - 1
        · subst hi; exact hlt
        · have := hs i (j - 1) (by omega) (by omega); omega
    · rw [decide_eq_false hlt, if_neg (by decide)]
      have hne := ordP_key hc hk hp (show m < n by omega) (show m - 1 < n by omega) (by omega)
      show cmp _ _ _ s
      refine hc _ _ _ (hp.lt (by omega)) (hp.lt (by omega)) ?_
      dsimp only
      rw [decide_eq_true (show key (p.getD (m - 1) 0) < key (p.getD m 0) by omega), if_pos rfl]
      exact h m (Nat.le_refl _) (by omega) hs
theorem kas_count_srt {p : Array Nat} (hn : 1 ≤ n) (hp : OrdP n p) {G : Nat × Array Nat → Shared → Prop} (h : ∀ m q, OrdP n q → 1 ≤ m → m ≤ n → SrtP key q m → G (m, q) s) : (kas_count n p).kasWp cmp G s := by
  unfold kas_count
  rw [KasT.kasWp_bind]
  refine kas_asc_srt hc hk hp (n - 1) 1 (Nat.le_refl _) (by omega) (fun i j hij hj => by omega) fun m h1 h2 hs hst => ?_
  by_cases e : m = n
  · subst e
    rw [if_pos (by simp)]
    exact h m p hp (by omega) (Nat.le_refl _) hs
  · rw [if_neg (by simpa using e)]
    have hst := hst (by omega)
    by_cases hm : m > 1
    · rw [if_pos hm]
      show cmp _ _ _ s
      refine hc _ _ _ (hp.lt (by omega)) (hp.lt (by omega)) ?_
      dsimp only
      rw [decide_eq_true (hs 0 (m - 1) (by omega) (by omega)), if_pos rfl]
      exact h m p hp (by omega) (by omega) hs
    · rw [if_neg hm]
      obtain rfl : m = 1 := by omega
      unfold kas_descPart
      rw [KasT.kasWp_bind]
      refine kas_desc_srt hc hk hp (n - (1 + 1)) (1 + 1) (Nat.le_refl _) (by omega) (fun i j hij hj => by
        obtain rfl : i = 0 := by omega
        obtain rfl : j = 1 := by omega
        exact hst) fun m' a1 a2 a3 => ?_
      dsimp only
      rw [if_neg (by decide)]
      unfold kas_tail3
      rw [KasT.kasWp_bind]
      have hq : OrdP n (kas_rev p 0 m') := hp.perm (mirror_perm _ _ _ _)
      have hsz := hp.size
      refine kas_asc_srt hc hk hq (n - m') m' (by omega) (by omega) (fun i j hij hj => ?_) fun m2 b1 b2 b3 _ => h m2 _ hq (by omega) (by omega) b3
      rw [getD_rev (by omega) (by omega), getD_rev (by omega) hj]
      exact a3 _ _ (by omega) (by omega)
theorem kas_place_srt {p : Array Nat} (hp : OrdP n p) {k : Nat} (hkn : k < n) (hs : SrtP key p k) {G : Nat → Shared → Prop} (h : ∀ l, l ≤ k → (∀ i, i < l → key (p.getD i 0) < key (p.getD k 0)) → (∀ i, l ≤ i → i < k → key (p.getD k 0) < key (p.getD i 0)) → G l s) :
    ∀ (f l r : Nat), l ≤ r → r ≤ k → r - l ≤ f → (∀ i, i < l → key (p.getD i 0) < key (p.getD k 0)) → (∀ i, r ≤ i → i < k → key (p.getD k 0) < key (p.getD i 0)) → (kas_place p k f l r).kasWp cmp G s
  | 0, l, r, h1, h2, h3, h4, h5 => h l (by omega) h4 fun i a b => h5 i (by omega) b
  | f + 1, l, r, h1, h2, h3, h4, h5 => by
    unfold kas_place
    by_cases e : l ≥ r
    · rw [if_pos e]
      exact h l (by omega) h4 fun i a b => h5 i (by omega) b
    · rw [if_neg e]
      show cmp _ _ _ s
      refine hc _ _ _ (hp.lt hkn) (hp.lt (by omega)) ?_
      dsimp only
      by_cases hlt : key (p.getD k 0) < key (p.getD ((l + r) / 2) 0)
      · rw [decide_eq_true hlt, if_pos rfl]
        refine kas_place_srt hp hkn hs h f l ((l + r) / 2) (by omega) (by omega) (by omega) h4 fun i a b => ?_
        by_cases hi : i = (l + r) / 2
        · subst hi; exact hlt
        · exact Nat.lt_trans hlt (hs _ _ (by omega) b)
      · rw [decide_eq_false hlt, if_neg (by decide)]
        have hne := ordP_key hc hk hp hkn (show (l + r) / 2 < n by omega) (by omega)
        refine kas_place_srt hp hkn hs h f ((l + r) / 2 + 1) r (by omega) h2 (by omega) (fun i a => ?_) h5
        by_cases hi : i = (l + r) / 2
        · subst hi; omega
        · have := hs i ((l + r) / 2) (by omega) (by omega); omega
theorem kas_bin_srt {G : Array Nat → Shared → Prop} (h : ∀ q, OrdP n q → SrtP key q n → G q s) : ∀ (f k : Nat) (p : Array Nat), OrdP n p → k + f = n → SrtP key p k → (kas_bin f p k).kasWp cmp G s
  | 0, k, p, hp, e, hs => by obtain rfl : k = n := by omega
                             exact h p hp hs
  | f + 1, k, p, hp, e, hs => by
    unfold kas_bin
    rw [KasT.kasWp_bind]
    refine kas_place_srt hc hk hp (show k < n by omega) hs (fun l hl h1 h2 => ?_) k 0 k (Nat.zero_le _) (Nat.le_refl _) (by omega) (fun i hi => absurd hi (Nat.not_lt_zero _)) fun i a b => by omega
    have hsz := hp.size
    refine kas_bin_srt h f (k + 1) _ (hp.perm (bubble_perm _ _ _)) (by omega) fun i j hij hj => ?_
    rw [getD_bubble (by omega) hl, getD_bubble (by omega) hl]
    repeat' split
    all_goals first
      | (exfalso; omega)
      | exact h1 _ (by omega)
      | exact h2 _ (by omega) (by omega)
      | exact hs _ _ (by omega) (by omega)
theorem kas_sort_srt (hn : 1 ≤ n) {G : Array Nat → Shared → Prop} (h : ∀ q, OrdP n q → SrtP key q n → G q s) : (kas_sort n).kasWp cmp G s := by
  unfold kas_sort
  rw [KasT.kasWp_bind]
  have h0 : OrdP n (List.toArray (List.range n)) := List.Perm.refl _
  refine kas_count_srt hc hk hn h0 fun m q hq h1 h2 hs => ?_
  dsimp only
  by_cases e : m < n
  · rw [if_pos e]
    exact kas_bin_srt hc hk h _ _ q hq (by omega) (by rw [show max m 1 = m by omega]; exact hs)
  · rw [if_neg e]
    obtain rfl : m = n := by omega
    exact h q hq hs
end
end
/-! sorted of tuples of three ints whose first two tell them apart -/
section
open PySem.W
variable {prog : Program} {w : World} {A : Around} {E : Value → Shared → Prop} {s : Shared}
def tri (t : Int × Int × Int) (t1 t2 t3 : Tok) : Array Value := #[.int t.1 t1, .int t.2.1 t2, .int t.2.2 t3]
abbrev tlt (x y : Int × Int × Int) : Prop := x.1 < y.1 ∨ (x.1 = y.1 ∧ x.2.1 < y.2.1)
theorem tup3_lt {a b : Addr} {x y : Int × Int × Int} {t1 t2 t3 u1 u2 u3 : Tok} {n m : Nat} {Q : Bool → Shared → Prop} (ha : s.heap.get? a = some (tupO (tri x t1 t2 t3) n)) (hb : s.heap.get? b = some (tupO (tri y u1 u2 u3) m))
    (hd : x.1 = y.1 → x.2.1 = y.2.1 → x = y) (h : Q (decide (tlt x y)) s) : wpAny (model prog w) A (keyLt' (tuples' true) (.ref a) (.ref b)) Q E s := by
  obtain ⟨x1, x2, x3⟩ := x
  obtain ⟨y1, y2, y3⟩ := y
  dsimp only at hd
  refine kat_lt ha rfl hb rfl (kat_cons (wpAny_eqBool_int (kat_go (fun e => ?_) fun e => ?_)))
  · have e : x1 = y1 := by simpa using e
    subst e
    refine kat_yes (kat_cons (wpAny_eqBool_int (kat_go (fun e => ?_) fun e => ?_)))
    · have e : x2 = y2 := by simpa using e
      subst e
      have h3 : x3 = y3 := by have := hd rfl rfl; injection this with _ h; injection h
      subst h3
      refine kat_yes (kat_cons (wpAny_eqBool_int ?_))
      rw [show (x3 == x3) = true from by simp]
      refine kat_yes (kat_nil ?_)
      rw [show decide (tlt (x1, x2, x3) (x1, x2, x3)) = false from by simp [tlt]] at h
      exact h
    · refine kat_no (kat_one _ _ (lt_int ?_))
      show Q _ _
      rw [show decide (tlt (x1, x2, x3) (x1, y2, y3)) = decide (x2 < y2) from by simp [tlt]] at h
      exact h
  · have e : x1 ≠ y1 := by simpa using e
    refine kat_no (oneLt_int ?_)
    rw [show decide (tlt (x1, x2, x3) (y1, y2, y3)) = decide (x1 < y1) from by simp [tlt, e]] at h
    exact h
/-- the values are such tuples -/
inductive Tris (h : Heap) : List Value → List (Int × Int × Int) → Prop
  | nil : Tris h [] []
  | cons {a : Addr} {t : Int × Int × Int} {t1 t2 t3 : Tok} {n : Nat} {vs : List Value} {ts : List (Int × Int × Int)} : h.get? a = some (tupO (tri t t1 t2 t3) n) → Tris h vs ts → Tris h (.ref a :: vs) (t :: ts)
theorem Tris.mono {h h' : Heap} (k : ∀ b o, o.cls = .type "tuple" → h.get? b = some o → h'.get? b = some o) : ∀ {vs : List Value} {ts : List (Int × Int × Int)}, Tris h vs ts → Tris h' vs ts
  | _, _, .nil => .nil
  | _, _, .cons a b => .cons (k _ _ rfl a) (b.mono k)
theorem Tris.length {h : Heap} : ∀ {vs : List Value} {ts : List (Int × Int × Int)}, Tris h vs ts → vs.length = ts.length
  | _, _, .nil => rfl
  | _, _, .cons _ b => by rw [List.length_cons, List.length_cons, b.length]
theorem Tris.get {h : Heap} : ∀ {vs : List Value} {ts : List (Int × Int × Int)}, Tris h vs ts → ∀ i, i < ts.length → ∃ a t1 t2 t3 n, vs.getD i .none = .ref a ∧ h.get? a = some (tupO (tri (ts.getD i (0, 0, 0)) t1 t2 t3) n)
  | _, _, .nil, i, hi => absurd hi (Nat.not_lt_zero _)
  | _, _, .cons a b, 0, _ => ⟨_, _, _, _, _, rfl, a⟩
  | _, _, .cons a b, i + 1, hi => b.get i (Nat.lt_of_succ_lt_succ hi)
theorem Tris.firsts {h : Heap} : ∀ {vs : List Value} {ts : List (Int × Int × Int)}, Tris h vs ts → ∃ fs, KatTups h vs fs ∧ fs.length = ts.length ∧ ∀ v ∈ fs, ∃ i t, v = .int i t
  | _, _, .nil => ⟨[], .nil, rfl, fun _ h => nomatch h⟩
  | _, _, .cons a b => by
    obtain ⟨fs, h1, h2, h3⟩ := b.firsts
    refine ⟨_, .cons a rfl rfl rfl h1, by rw [List.length_cons, List.length_cons, h2], fun v hv => ?_⟩
    rcases List.mem_cons.mp hv with rfl | hv
    · exact ⟨_, _, rfl⟩
    · exact h3 v hv
theorem tris_kind {vs : List Value} {ts : List (Int × Int × Int)} (h : Tris s.heap vs ts) (hn : 0 < ts.length) {Q : SortKind → Shared → Prop} (q : Q (tuples' true) s) : wpAny (model prog w) A (keyKind' vs.toArray) Q E s := by
  obtain ⟨fs, h1, h2, h3⟩ := h.firsts
  refine kat_kind (T := .type "int") h1 (by omega) (fun v hv => ?_) rfl ?_
  · obtain ⟨i, t, rfl⟩ := h3 v hv
    exact .now
  · exact q
/-- the sort's own list emptied and filled again -/
theorem list_sort_tris {a : Addr} {vs : List Value} {ts : List (Int × Int × Int)} {n : Nat} {key : Nat → Nat} {P : PySem.Fin → Shared → Prop} (ho : s.heap.get? a = some (seqObj "list" vs.toArray n)) (hT : Tris s.heap vs ts) (h64 : ts.length < 64)
    (hk : ∀ i j, i < ts.length → j < ts.length → (tlt (ts.getD i (0, 0, 0)) (ts.getD j (0, 0, 0)) ↔ key i < key j)) (hd : ∀ i j, i < ts.length → j < ts.length → i ≠ j → key i ≠ key j)
    (h : ∀ q, OrdP ts.length q → SrtP key q ts.length → P (.done (.ret .none)) { s with heap := sortedHeap s.heap a vs (q.toList.map fun i => vs.getD i .none).toArray }) :
    wpAny (model prog w) A (Builtin.«list.sort» ⟨[.ref a], []⟩) P E s := by
  have hl := hT.length
  have ha : a < s.heap.objs.size := Heap.lt_size ho
  obtain ⟨e1, ho1⟩ : ∃ e1, (s.heap.update a (Obj.mapSeq fun _ => (#[] : Array Value))).get? a = some (seqObj "list" #[] e1) := ⟨_, get?_update_seq ho fun _ => #[]⟩
  rw [list_sort_plain]
  refine wpAny_bind (listItems_at ho rfl ?_)
  refine wpAny_bind (listUpdate_at ho rfl ?_ (by rw [List.size_toArray, sizeLine_eq]; omega) (Nat.zero_le _))
  refine wpAny_bind (seqEpoch_at ho1 rfl ?_)
  refine wpAny_bind (wpAny_newTuple ?_ (by show vs.length ≤ _; rw [sizeLine_eq]; omega))
  refine wpAny_bind (wpAny_newList ?_ (Nat.zero_le _))
  refine wpAny_holding ?_
  have ho6 : (((s.heap.update a (Obj.mapSeq fun _ => #[])).push (seqObj "tuple" vs.toArray 0)).push (seqObj "list" #[] 0)).get? a = some (seqObj "list" #[] e1) := Heap.get?_push_of_some _ (Heap.get?_push_of_some _ ho1)
  have hT6 : Tris (((s.heap.update a (Obj.mapSeq fun _ => #[])).push (seqObj "tuple" vs.toArray 0)).push (seqObj "list" #[] 0)) vs ts := hT.mono fun b o hc hb => by
    have hba : b ≠ a := by rintro rfl; rw [ho] at hb; cases hb; exact absurd hc (by intro x; injection x with x; revert x; decide)
    refine Heap.get?_push_of_some _ (Heap.get?_push_of_some _ ?_)
    rw [Heap.get?_update_ne _ _ _ _ hba]; exact hb
  show wpAny (model prog w) A _ P E { s with heap := ((s.heap.update a (Obj.mapSeq fun _ => (#[] : Array Value))).push (seqObj "tuple" vs.toArray 0)).push (seqObj "list" #[] 0) }
  dsimp only
  have fill : ∀ xs : Array Value, xs.size = vs.length → P (.done (.ret .none)) { s with heap := sortedHeap s.heap a vs xs } → P (.done (.ret .none)) { s with heap := (((s.heap.update a (Obj.mapSeq fun _ => #[])).push (seqObj "tuple" vs.toArray 0)).push (seqObj "list" #[] 0)).update a (Obj.mapSeq fun _ => xs) } := fun _ _ h => h
  by_cases h2 : vs.toArray.size < 2
  · rw [if_pos h2, if_pos h2]
    rw [List.size_toArray] at h2
    refine wpAny_bind (wpAny_pure ?_)
    rw [StateT.run_pure]
    refine wpAny_bind (wpAny_pure ?_)
    dsimp only
    refine wpAny_bind (seqEpoch_at ho6 rfl ?_)
    refine wpAny_bind (listUpdate_at ho6 rfl ?_ (Nat.zero_le _) (by rw [Array.size_map]; show (pairsOf vs).size ≤ _; rw [pairsOf_size, sizeLine_eq]; omega))
    simp only [bne_self_eq_false, Bool.false_eq_true, if_false]
    have e2 : ((vs.toArray.zip vs.toArray).map (·.2)) = (((List.range ts.length).toArray).toList.map fun i => vs.getD i .none).toArray := by
      have := kat_snds (ks := vs) (vs := vs) rfl (st := SortSt.mk' general' (vs.toArray.zip vs.toArray) #[] 7 none) (p := (List.range ts.length).toArray) (by
        have e := kas_range (vs.toArray.zip vs.toArray)
        rw [show (vs.toArray.zip vs.toArray).size = vs.length by simp] at e
        show vs.toArray.zip vs.toArray = _
        rw [← hl]; exact e.symm)
      exact this
    have q := h (List.range ts.length).toArray (List.Perm.refl _) (fun i j hij hj => by omega)
    rw [← e2] at q
    exact wpAny_pure q
  · rw [if_neg h2, if_neg h2]
    rw [List.size_toArray] at h2
    refine wpAny_bind (tris_kind (s := { s with heap := ((s.heap.update a (Obj.mapSeq fun _ => (#[] : Array Value))).push (seqObj "tuple" vs.toArray 0)).push (seqObj "list" #[] 0) }) hT6 (by omega) ?_)
    refine wpAny_bind (wpAny_mono (kat_run (Q := fun st' s' => s' = { s with heap := ((s.heap.update a (Obj.mapSeq fun _ => (#[] : Array Value))).push (seqObj "tuple" vs.toArray 0)).push (seqObj "list" #[] 0) } ∧ ∃ p : Array Nat, OrdP ts.length p ∧ SrtP key p ts.length ∧ arrOf st' = p.map (kas_item (vs.toArray.zip vs.toArray)) ∧ failedOf st' = none)
      (G := fun p s' => s' = { s with heap := ((s.heap.update a (Obj.mapSeq fun _ => (#[] : Array Value))).push (seqObj "tuple" vs.toArray 0)).push (seqObj "list" #[] 0) } ∧ OrdP ts.length p ∧ SrtP key p ts.length)
      rfl (by omega) (by omega) (fun p' st' s' a1 a2 a3 a4 => ⟨a4.1, p', a4.2.1, a4.2.2, a2, a3⟩) ?_) ?_ fun _ _ e => e)
    · rw [hl]
      refine kas_sort_srt (key := key) (n := ts.length) (fun i j C hi hj hC => ?_) hd (by omega) fun q a1 a2 => ⟨rfl, a1, a2⟩
      obtain ⟨x, t1, t2, t3, m, g1, g2⟩ := hT6.get i hi
      obtain ⟨y, u1, u2, u3, m', g3, g4⟩ := hT6.get j hj
      show wpAny _ _ _ _ _ _
      rw [g1, g3]
      refine tup3_lt g2 g4 (fun x1 x2 => ?_) ?_
      · by_cases e : i = j
        · rw [e]
        · have n1 := hd i j hi hj e
          have n2 := mt (hk i j hi hj).mpr
          have n3 := mt (hk j i hj hi).mpr
          simp only [tlt] at n2 n3
          exfalso
          rcases Nat.lt_or_gt_of_ne n1 with h | h
          · have := (hk i j hi hj).mpr h; simp only [tlt] at this; omega
          · have := (hk j i hj hi).mpr h; simp only [tlt] at this; omega
      · have e : decide (tlt (ts.getD i (0, 0, 0)) (ts.getD j (0, 0, 0))) = decide (key i < key j) := by
          have := hk i j hi hj
          by_cases hlt : key i < key j
          · rw [decide_eq_true hlt, decide_eq_true (this.mpr hlt)]
          · rw [decide_eq_false hlt, decide_eq_false (mt this.mp hlt)]
        rw [e]; exact hC
    · rintro ⟨⟨⟩, st'⟩ s' ⟨rfl, p, hp, hs, har, hf⟩
      dsimp only
      have hout := kat_snds (ks := vs) (vs := vs) rfl har
      have hps := hp.size
      have hsz : (List.toArray (p.toList.map fun i => vs.getD i Value.none)).size = vs.length := by rw [List.size_toArray, List.length_map, Array.length_toList]; omega
      rw [hout]
      refine wpAny_bind (seqEpoch_at ho6 rfl ?_)
      refine wpAny_bind (listUpdate_at ho6 rfl ?_ (Nat.zero_le _) (Nat.le_trans (Nat.le_of_eq hsz) (by rw [sizeLine_eq]; omega)))
      rw [hf]
      simp only [bne_self_eq_false, Bool.false_eq_true, if_false]
      exact wpAny_pure (h p hp hs)
end
section
variable {c : Cx} {σ : St}
def trV (t : Int × Int × Int) : V := .tup [.int t.1, .int t.2.1, .int t.2.2]
theorem tris_of {W : Wd} {env : Env} {s : Shared} (S : Sim c W env σ s) : ∀ {ts : List (Int × Int × Int)} {xs : List Value}, VRs c.G.w W (ts.map trV) xs → Tris s.heap xs ts
  | [], _, h => by cases h; exact .nil
  | t :: ts, _, h => by
    cases h with
    | cons r rs =>
      cases r with
      | @tup a xs n _ e r =>
        have q := S.1.at_ a
        rw [e] at q
        obtain ⟨x, y, z, e1, r1, r2, r3⟩ := three_of r
        obtain ⟨t1, rfl⟩ := int_of r1
        obtain ⟨t2, rfl⟩ := int_of r2
        obtain ⟨t3, rfl⟩ := int_of r3
        have : xs = tri t t1 t2 t3 := Array.toList_inj.mp e1
        subst this
        exact .cons q (tris_of S rs)
theorem VRs.map_get {w : World} {W : Wd} {vs : List V} {xs : List Value} (r : VRs w W vs xs) : ∀ (q : List Nat), (∀ i ∈ q, i < vs.length) → VRs w W (q.map fun i => vs.getD i .none) (q.map fun i => xs.getD i .none)
  | [], _ => .nil
  | i :: q, h => by
    have hi := h i (.head _)
    obtain ⟨x, hx, rx⟩ := r.get (List.getElem?_eq_getElem hi)
    rw [List.map_cons, List.map_cons]
    refine .cons ?_ (VRs.map_get r q fun j hj => h j (.tail _ hj))
    rw [List.getD_eq_getElem?_getD, List.getD_eq_getElem?_getD, hx, List.getElem?_eq_getElem hi]
    exact rx
theorem Call_sortedT {a : V} {ts : List (Int × Int × Int)} {key : Nat → Nat} {Q : V → St → Prop} (ha : ListV σ a (ts.map trV)) (h64 : ts.length < 64)
    (hk : ∀ i j, i < ts.length → j < ts.length → (tlt (ts.getD i (0, 0, 0)) (ts.getD j (0, 0, 0)) ↔ key i < key j)) (hd : ∀ i j, i < ts.length → j < ts.length → i ≠ j → key i ≠ key j)
    (h : ∀ q, OrdP ts.length q → SrtP key q ts.length → Q (.lst (q.toList.map fun i => trV (ts.getD i (0, 0, 0)))) σ) : CallV c (.builtin "sorted") [a] σ Q := by
  intro W env s A m hE hA hS hT
  obtain ⟨xs, hx, rfl⟩ := hT
  obtain ⟨x, rfl, r⟩ := one_of hx
  obtain ⟨l, xs, rfl, hl, rl⟩ := ha.get r hS
  have hT := tris_of hS rl
  have hlen := hT.length
  generalize hvs : xs.toList = vs at *
  have hl : s.heap.IsList l vs.toArray := by rw [← hvs]; simpa using hl
  refine Calls.call_function_entry kind_sorted plain_sorted entry_sorted (args_sorted1 _) ?_
  unfold Builtin.«sorted»
  refine wpAny_bind (m := checkCount "sorted" 1 1 _) (wpAny_pure ?_)
  refine wpAny_bind (collect_list hl ?_ (by rw [sizeLine_eq]; omega))
  refine wpAny_bind (wpAny_newList ?_ (by rw [sizeLine_eq]; omega))
  have hsz : ((s.heap.push (seqObj "list" #[] 0)).update s.heap.objs.size (Obj.mapSeq (· ++ vs.toArray))).objs.size = s.heap.objs.size + 1 := by
    rw [Heap.size_update, size_push']
  have hoL : (((s.heap.push (seqObj "list" #[] 0)).update s.heap.objs.size (Obj.mapSeq (· ++ vs.toArray))).push (seqObj "list" vs.toArray 0)).get? (s.heap.objs.size + 1) = some (seqObj "list" vs.toArray 0) := by
    rw [← hsz]; exact Heap.get?_push_size _ rfl
  have hT6 : Tris (((s.heap.push (seqObj "list" #[] 0)).update s.heap.objs.size (Obj.mapSeq (· ++ vs.toArray))).push (seqObj "list" vs.toArray 0)) vs ts := hT.mono fun b o _ hb => by
    have hlt : b < s.heap.objs.size := Heap.lt_size hb
    refine Heap.get?_push_of_some _ ?_
    rw [Heap.get?_update_ne _ _ _ _ (Nat.ne_of_lt hlt)]
    exact Heap.get?_push_of_some _ hb
  show wpAny _ _ _ _ _ { s with heap := ((s.heap.push (seqObj "list" #[] 0)).update s.heap.objs.size (Obj.mapSeq (· ++ vs.toArray))).push (seqObj "list" vs.toArray 0) }
  rw [hsz]
  refine wpAny_bind (wpAny_holding (wpAny_call_entry slot_list_sort ⟨_, hoL, rfl⟩ entry_list_sort (list_sort_tris hoL hT6 h64 hk hd fun q a1 a2 => ⟨_, rfl, ?_⟩) (args_list_sort _)))
  refine wpAny_pure ⟨_, rfl, ?_⟩
  show ∃ b σ' W', Q b σ' ∧ Le W W' ∧ VRc c W' b (.ref (s.heap.objs.size + 1)) ∧ Sim c W' env σ' { s with heap := sortedAll s.heap vs (q.toList.map fun i => vs.getD i .none).toArray }
  obtain ⟨e, he⟩ := sortedAll_at s.heap vs (q.toList.map fun i => vs.getD i .none).toArray
  have S₂ : Sim c W env σ { s with heap := sortedAll s.heap vs (q.toList.map fun i => vs.getD i .none).toArray } := hS.keeps (tk := s.toks) fun b o hb => sortedAll_old hb
  have ho : W (s.heap.objs.size + 1) = .out := hS.1.out (fresh_none _ (Nat.le_succ _))
  refine ⟨_, σ, _, h q a1 a2, Le.put ho, .lst (Wd.put_self _ _ _) rfl rfl ?_, S₂.froz ho he⟩
  have hq : ∀ i ∈ q.toList, i < (ts.map trV).length := fun i hi => by rw [List.length_map]; exact List.mem_range.mp (a1.mem_iff.mp hi)
  have e1 : (q.toList.map fun i => trV (ts.getD i (0, 0, 0))) = q.toList.map fun i => (ts.map trV).getD i .none := List.map_congr_left fun i hi => by
    have := hq i hi
    rw [List.length_map] at this
    rw [List.getD_eq_getElem?_getD, List.getD_eq_getElem?_getD, List.getElem?_map, List.getElem?_eq_getElem this]; rfl
  rw [e1]
  exact (rl.map_get q.toList hq).mono (Le.put ho).q
theorem intsAre_of {w : World} {W : Wd} : ∀ {ns : List Int} {xs : List Value}, VRs w W (ns.map V.int) xs → IntsAre xs ns
  | [], _, h => by cases h; exact .nil
  | n :: ns, _, h => by
    cases h with
    | cons r rs => obtain ⟨t, rfl⟩ := int_of r; exact .cons n t (intsAre_of rs)
theorem ints_vr0 {w : World} {W : Wd} : ∀ {vals : List Value} {ns : List Int}, IntsAre vals ns → VRs w W (ns.map V.int) vals
  | _, _, .nil => .nil
  | _, _, .cons n t r => .cons (.int n t) (ints_vr0 r)
theorem Call_sorted {a : V} {ns : List Int} {Q : V → St → Prop} (ha : ListV σ a (ns.map V.int)) (h64 : ns.length < 64) (h : ∀ ns' : List Int, ns'.Perm ns → ns'.Pairwise (· ≤ ·) → Q (.lst (ns'.map V.int)) σ) : CallV c (.builtin "sorted") [a] σ Q := by
  intro W env s A m hE hA hS hT
  obtain ⟨xs, hx, rfl⟩ := hT
  obtain ⟨x, rfl, r⟩ := one_of hx
  obtain ⟨l, xs, rfl, hl, rl⟩ := ha.get r hS
  have hlen := rl.length
  rw [List.length_map] at hlen
  refine sorted_ints (vs := xs.toList) (by simpa using hl) (intsAre_of rl) (by omega) fun out ns' a1 a2 a3 => ?_
  obtain ⟨e, he⟩ := sortedAll_at s.heap xs.toList out
  have S₂ : Sim c W env σ { s with heap := sortedAll s.heap xs.toList out } := hS.keeps (tk := s.toks) fun b o hb => sortedAll_old hb
  have ho : W (s.heap.objs.size + 1) = .out := hS.1.out (fresh_none _ (Nat.le_succ _))
  exact ⟨_, σ, _, h ns' a2 a3, Le.put ho, .lst (Wd.put_self _ _ _) rfl rfl (ints_vr0 a1), S₂.froz ho he⟩
def intIs (x : Int) : Value → Bool
  | .int i _ => i == x
  | _ => false
theorem Call_index {a : V} {ns : List Int} {x : Int} {j : Nat} {Q : V → St → Prop} (ha : ListV σ a (ns.map V.int)) (hz : ns.length < 1000000) (hj : ns[j]? = some x) (hno : ∀ m, m < j → ns[m]? ≠ some x) (h : Q (.int j) σ) : CallV c (.builtin "list.index") [a, .int x] σ Q := by
  intro W env s A m hE hA hS hT
  obtain ⟨xs, hx, rfl⟩ := hT
  obtain ⟨u, v, rfl, r, r'⟩ := two_of hx
  obtain ⟨t, rfl⟩ := int_of r'
  obtain ⟨l, xs, rfl, hl, rl⟩ := ha.get r hS
  obtain ⟨⟨cls, dd, data, sl⟩, ho, hc, n, hd⟩ := id hl
  simp only at hc hd
  subst hc hd
  have hI := intsAre_of rl
  have hlen := rl.length
  rw [List.length_map, Array.length_toList] at hlen
  have hjb := (List.getElem?_eq_some_iff.mp hj).1
  have at_ : ∀ k (hk : k < xs.size), ∃ t', ns[k]? = some (ns[k]'(by omega)) ∧ xs[k] = .int (ns[k]'(by omega)) t' := fun k hk => by
    have e : (ns.map V.int)[k]? = some (.int (ns[k]'(by omega))) := by rw [List.getElem?_map, List.getElem?_eq_getElem (by omega)]; rfl
    obtain ⟨y, hy, ry⟩ := rl.get e
    obtain ⟨t', rfl⟩ := int_of ry
    refine ⟨t', List.getElem?_eq_getElem (by omega), ?_⟩
    rw [Array.getElem?_toList, Array.getElem?_eq_getElem hk] at hy
    exact Option.some.inj hy
  refine call_meets PySem.F.slot_list_index ⟨_, ho, rfl⟩ PySem.F.entry_list_index (PySem.F.args_list_index_2 _ _) (SeqAt.list_indexAt l xs n dd sl (.int x t) (intIs x) j (by omega) (by omega) ?_ ?_) ⟨ho, fun y hy => ?_, ?_⟩
  · obtain ⟨t', e1, e2⟩ := at_ j (by omega)
    rw [e2]
    rw [hj] at e1
    injection e1 with e1
    simp [intIs, ← e1]
  · intro k hk hkj
    obtain ⟨t', e1, e2⟩ := at_ k hk
    rw [e2]
    have := hno k hkj
    rw [e1] at this
    simp only [intIs, beq_eq_false_iff_ne]
    exact fun e => this (by rw [e])
  · obtain ⟨k, hk, rfl⟩ := Array.mem_iff_getElem.mp hy
    obtain ⟨t', e1, e2⟩ := at_ k hk
    rw [e2]
    exact SeqAt.EqAt.int_int _ _ _ _
  · exact ⟨_, σ, W, h, Le.refl W, .int _ _, hS.toks⟩
end
open PySem.AutoSeq1 in
theorem tup_lt2 {l b : Addr} {x y u v : Int} {t1 t2 t3 t4 : Tok} {n n2 : Nat} :
    Meets (Builtin.«tuple.__lt__» ⟨[.ref l, .ref b], []⟩)
      (fun _ R s => s.heap.get? l = some { cls := .type "tuple", dict := none, data := .seq #[.int x t1, .int y t2] n, slots := #[] } ∧ s.heap.get? b = some { cls := .type "tuple", dict := none, data := .seq #[.int u t3, .int v t4] n2, slots := #[] } ∧
        R (.ok (.ret (.bool (decide (x < u ∨ (x = u ∧ y < v)))))) s) :=
  .of_wp fun prog w A R s h => by
    obtain ⟨hp, g, d, tk, os⟩ := s; obtain ⟨hl, hb, h⟩ := h
    have f2 := AutoSeq1.sub_tuple_tuple
    wp_walk using wpAny_loadPart' hl, wpAny_loadPart' hb
    refine (show wpAny (model prog w) _ (eqBool (.int x t1) (.int u t3)) _ _ _ from wpAny_eqBool_int ?_)
    by_cases hxu : x = u
    · subst hxu
      simp only [beq_self_eq_true, Bool.not_true, Bool.false_eq_true, if_false]
      wp_walk
      refine (show wpAny (model prog w) _ (eqBool (.int y t2) (.int v t4)) _ _ _ from wpAny_eqBool_int ?_)
      by_cases hyv : y = v
      · subst hyv
        simp only [beq_self_eq_true, Bool.not_true, Bool.false_eq_true, if_false]
        wp_walk
        refine ⟨_, rfl, ?_⟩
        rw [show (decide (x < x ∨ x = x ∧ y < y)) = false by simp] at h
        exact h
      · have e : (y == v) = false := by simpa using hyv
        rw [e]
        simp only [Bool.not_false, if_true]
        refine wpAny_bind (wpAny_rule (wpAny_bind (show wpAny (model prog w) _ (compareOp .Lt (.int y t2) (.int v t4)) _ _ _ from lt_int ?_)))
        wp_walk
        refine ⟨_, rfl, ?_⟩
        rw [show (decide (x < x ∨ x = x ∧ y < v)) = decide (y < v) by simp] at h
        exact h
    · have e : (x == u) = false := by simpa using hxu
      rw [e]
      simp only [Bool.not_false, if_true]
      refine wpAny_bind (wpAny_rule (wpAny_bind (show wpAny (model prog w) _ (compareOp .Lt (.int x t1) (.int u t3)) _ _ _ from lt_int ?_)))
      wp_walk
      refine ⟨_, rfl, ?_⟩
      rw [show (decide (x < u ∨ x = u ∧ y < v)) = decide (x < u) by simp [hxu]] at h
      exact h
theorem Cmp_lt_tup2 {c : Cx} {σ : St} {x y u v : Int} {Q : V → St → Prop} (h : Q (.bool (decide (x < u ∨ (x = u ∧ y < v)))) σ) : CmpV c .Lt (.tup [.int x, .int y]) (.tup [.int u, .int v]) σ Q := by
  intro W env s A m hE hA hS hT
  obtain ⟨a, b, ha, hb, rfl⟩ := hT
  cases ha with
  | @tup a xs n _ e1 r1 =>
    cases hb with
    | @tup b ys n2 _ e2 r2 =>
      have q1 := hS.1.at_ a
      have q2 := hS.1.at_ b
      rw [e1] at q1
      rw [e2] at q2
      obtain ⟨_, _, k1, s1, s2⟩ := two_of r1
      obtain ⟨_, _, k2, s3, s4⟩ := two_of r2
      obtain ⟨t1, rfl⟩ := int_of s1
      obtain ⟨t2, rfl⟩ := int_of s2
      obtain ⟨t3, rfl⟩ := int_of s3
      obtain ⟨t4, rfl⟩ := int_of s4
      obtain rfl : xs = #[.int x t1, .int y t2] := Array.toList_inj.mp k1
      obtain rfl : ys = #[.int u t3, .int v t4] := Array.toList_inj.mp k2
      have hu : A.units < cLine := hA.units
      refine (show wpAny _ _ (richCompare .Lt (.ref a) (.ref b)) _ _ _ from richCompare_meets_room ⟨_, q1, rfl⟩ ⟨_, q2, rfl⟩ PySem.F.slot_tuple_lt PySem.F.entry_tuple_lt (PySem.F.args_tuple_lt_2 _ _) (tup_lt2 (n := n) (n2 := n2)) ⟨q1, q2, ?_⟩ hu)
      exact ⟨(fun e => nomatch e), _, σ, W, h, Le.refl W, .bool _, hS⟩
/-- a block over what can be walked, each item taken -/
theorem comp_src {c : Cx} {σ : St} {scope : Scope} {elt : Expr} {x : Str} {Q : V → St → Prop} {a : V} {vs : List V} {src : ISrc} (cap : List (Str × V)) (f : V → V) (h1 : Src σ a src) (h2 : Items σ.sto src vs) (hn : vs.length < 1000000) (hcap : ∀ p ∈ cap, σ.loc.lookup p.1 = some p.2 ∧ (relS scope c.scope).names.lookup p.1 ≠ some .local)
    (hitem : ∀ v, v ∈ vs → Ev (blk c scope) elt ⟨(x, v) :: cap, σ.sto⟩ fun r σ'' => r = f v ∧ σ''.sto = σ.sto ∧ Sub cap σ''.loc) (hQ : Q (.lst (vs.map f)) σ) : CompGoal c scope elt x [] Q a σ := by
  refine ⟨vs, src, cap, fun k => (vs.take k).map f, h1, h2, hn, hcap, rfl, fun k v hv => ?_, by simpa using hQ⟩
  refine Tests_nil ?_
  rw [if_pos rfl]
  refine (hitem v (List.mem_of_getElem? hv)).mono fun r σ'' ⟨h1, h2, h3⟩ => ⟨h2, h3, ?_⟩
  dsimp only
  rw [List.take_add_one, hv, List.map_append, h1]; rfl
theorem Sub_dcI {c : Cx} {σ : St} {value slice : Expr} {k : Int} {es : List (Int × V)} {v : V} {Q : V → St → Prop} (hn : (es.map (·.1)).Nodup) (hv : (es.find? fun p => p.1 = k) = some (k, v)) (h : Q v σ) : SubV c value slice (.dct (ikv es)) (.int k) σ Q := by
  intro W env s A m hE hA hS hT
  obtain ⟨x, y, hx, hy, rfl⟩ := hT
  obtain ⟨t, rfl⟩ := int_of hy
  cases hx with
  | @dct a ents n _ e lo r =>
    have q := hS.1.at_ a
    rw [e] at q
    obtain ⟨kvs, h1, h2, h3⟩ := drs_iv (prog := c.G.prog) r
    have hd : s.heap.DictOf (intKind c.G.prog c.G.w) a kvs := ⟨_, ents, n, q, ⟨rfl, rfl, rfl⟩, rfl, fun e he => h3 e (Array.mem_toList_iff.mpr he), h2, by rw [h1.keys]; exact hn⟩
    obtain ⟨ops, hs⟩ := plainSub slice (.ref a) (.int k t)
    have q := h1.find k
    rw [hv] at q
    obtain ⟨z, hz, rz⟩ := q
    refine tail_any (T := "dict") hd.typeIs slot_dict_getitem.lookup ?_ hs
    exact wpAny_getItem_of (knd := intKind c.G.prog c.G.w) (intKind_is _ _ _ _) hd.mapOf hz ⟨v, σ, W, h, Le.refl W, rz, hS.toks⟩
def PW : Program := PySem.Challenge.pw_dw5007_01
def topAt (k : Nat) : Stmt := PW.main.body.getD k (.Pass ⟨0, 0, 0, 0⟩)
def bodyAt (k : Nat) : List Stmt := match topAt k with | .FunctionDef _ _ b _ _ _ _ _ _ _ => b | _ => []
def scopeAt (k : Nat) : Scope := match topAt k with | .FunctionDef _ _ _ _ _ _ sc _ _ _ => sc | _ => { kind := .function, names := [], isGenerator := false, isCoroutine := false, more := [] }
def argsAt (k : Nat) : Arguments := match topAt k with | .FunctionDef _ a _ _ _ _ _ _ _ _ => a | _ => ⟨[], [], none, [], [], none, []⟩

/-- the k-th statement's def stands at a -/
def Fn (G : Gl) (a : Addr) (k : Nat) (dV : Value) : Prop := ∃ nm kV doc pm an cd ct, FnOk G a (fnX nm nm (argsAt k) (bodyAt k) (scopeAt k) [] dV kV doc pm an cd ct) (bodyAt k)
def cx (G : Gl) (k n : Nat) : Cx := ⟨G, scopeAt k, true, n⟩
def okAt (k : Nat) : Bool := !(scopeAt k).isCoroutine && !(scopeAt k).isGenerator && (scopeAt k).kind == .function && (scopeAt k).names.all (fun y => y.2 != .free)
def kindsOk (sc : Scope) (xs : List Str) : Bool := xs.all fun y => sc.names.lookup y == some .local || sc.names.lookup y == some .cell
theorem fn_calls {G : Gl} {a : Addr} {k n : Nat} {args : List V} {sto : List MO} {Q : V → List MO → Prop} (F : Fn G a k .none) (bs : List (Str × V))
    (hbind : ∀ (nm : Str) (kV doc pm : Value) (an : Option Addr) (cd ct : Value) (w : World) (W : Wd) (xs : List Value), VRs w W args xs → ∃ binds, Binds w W bs binds ∧ bindArgs (fnX nm nm (argsAt k) (bodyAt k) (scopeAt k) [] .none kV doc pm an cd ct) ⟨xs, []⟩ = pure binds)
    (hkind : kindsOk (scopeAt k) (bs.map (·.1)) = true)
    (h : Exs (cx G k n) (bodyAt k) ⟨bs.reverse, sto⟩ fun fl σ => Q fl.val σ.sto) : Calls G (n + 1) (.ref a) args sto Q := by
  obtain ⟨nm, kV, doc, pm, an, cd, ct, F⟩ := F
  refine Calls_def F bs (fun W s xs hS hx => ?_) ?_ h
  · obtain ⟨binds, hb, e⟩ := hbind nm kV doc pm an cd ct G.w W xs hx
    exact ⟨binds, hb, BindsTo.of_eq e⟩
  · rw [← hkind, kindsOk, List.all_map]; rfl

theorem Then_next {c : Cx} {rest : List Stmt} {Q : Fl → St → Prop} {σ : St} (h : Exs c rest σ Q) : Then c rest Q .next σ := h
theorem Then_ret {c : Cx} {rest : List Stmt} {Q : Fl → St → Prop} {σ : St} {v : V} (h : Q (.ret v) σ) : Then c rest Q (.ret v) σ := h
theorem ite_of {b : Bool} {P R : Prop} (h1 : b = true → P) (h2 : b = false → R) : if b = true then P else R := by
  cases b
  · exact h2 rfl
  · exact h1 rfl

local macro_rules | `(tactic| walk_at "ev") => `(tactic| first
  | (with_reducible refine Exs_cons ?_)
  | (with_reducible refine Exs_nil ?_)
  | ((with_reducible refine Then_next ?_); (try dsimp only))
  | (with_reducible refine Then_ret ?_)
  | (with_reducible refine Ev_int ?_)
  | (with_reducible refine Ev_none ?_)
  | (with_reducible refine Ev_bool ?_)
  | (with_reducible refine Ev_str ?_)
  | ((with_reducible refine' Ev_name ?hx ?hl ?_); (case hx => rfl); (case hl => rfl))
  | (with_reducible refine Ev_bin ?_)
  | ((with_reducible refine Ev_cmp ?hm ?_); (case hm => with_unfolding_all rfl))
  | (with_reducible refine Ev_ifexp ?_)
  | ((with_reducible refine Ev_tup ?hm ?_); (case hm => decide))
  | (with_reducible refine Evs_nil ?_)
  | ((with_reducible refine Evs_cons ?hm ?_); (case hm => rfl))
  | ((with_reducible refine Tst_cmp ?hm ?_); (case hm => with_unfolding_all rfl))
  | (with_reducible refine Tst_not ?_)
  | (with_reducible refine Tst_bool ?_)
  | (with_reducible refine All_nil ?_)
  | (with_reducible refine All_or ?_)
  | (with_reducible refine All_and ?_)
  | (with_reducible refine TruV_bool ?_)
  | (with_reducible refine Bin_add ?_)
  | (with_reducible refine Bin_sub ?_)
  | ((with_reducible refine Bin_mod ?hm ?_); (case hm => decide))
  | ((with_reducible refine Bin_div ?hm ?hn ?_); (case hm => decide); (case hn => decide))
  | (with_reducible refine Una_neg ?_)
  | (with_reducible refine Cmp_eqi ?_)
  | (with_reducible refine Cmp_nei ?_)
  | (with_reducible refine Cmp_lti ?_)
  | (with_reducible refine Cmp_lei ?_)
  | (with_reducible refine Cmp_gti ?_)
  | (with_reducible refine Cmp_gei ?_)
  | (with_reducible refine Ex_ret ?_)
  | (with_reducible refine Ex_if ?_)
  | ((with_reducible refine Ex_asg ?hm (Ok.of ?hn) ?_); (case hm => rfl); (case hn => rfl))
  | ((with_reducible refine Ex_expr ?hm ?hn ?_); (case hm => rfl); (case hn => rfl))
  | ((with_reducible refine Asg_name (Ok.of ?hn) ?_); (case hn => rfl)))
/-- the text's own sentinel -/
structure Miss (G : Gl) (m : Addr) : Prop where
  name : G.mg "_initial_missing" = some (.ref m)
  obj : ∃ o, G.s0.heap.get? m = some o ∧ o.cls = .type "object"
  iter : G.mg "iter" = none
  next : G.mg "next" = none

abbrev look (l : List (Str × V)) (x : Str) : Option V := l.lookup x
/-- what the fold asks of its step -/
def Fold (G : Gl) (n : Nat) (f : Value) (seq : V) (j : Nat) (J : Nat → V → List MO → Prop) (meas : Nat → List MO → Nat) (Q : V → List MO → Prop) : Prop :=
  ∀ k v s, J k v s → s[j]? = some (.iter seq k) ∧ ∃ vs, ListV ⟨[], s⟩ seq vs ∧ (∀ el, vs[k]? = some el → Calls G n f [v, el] (s.set j (.iter seq (k + 1))) fun r s' => J (k + 1) r s' ∧ meas (k + 1) s' < meas k s) ∧ (vs.length ≤ k → Q v (s.set j .junk))

theorem reduce_tail {G : Gl} {n n' : Nat} {f : Value} {seq v₀ : V} {j k₀ : Nat} {J : Nat → V → List MO → Prop} {meas : Nat → List MO → Nat} {Q : V → List MO → Prop} {loc : List (Str × V)} {s₀ : List MO} (hk : Kp G f) (hn : n ≤ n') (hF : Fold G n f seq j J meas Q) (hJ : J k₀ v₀ s₀)
    (h1 : look loc "value" = some v₀) (h2 : look loc "it" = some (.ref j)) (h3 : look loc "function" = some (.con f)) :
    Exs (cx G 2 n') ((bodyAt 2).drop 2) ⟨loc, s₀⟩ fun fl σ => Q fl.val σ.sto := by
  show Exs _ (_ :: _) _ _
  refine Exs_cons ?_
  refine Ex_forI (fun k σ => ∃ v, look σ.loc "value" = some v ∧ look σ.loc "it" = some (.ref j) ∧ look σ.loc "function" = some (.con f) ∧ J k v σ.sto) (fun k σ => meas k σ.sto) (fun _ _ => rfl) ?_
  refine Ev_name h2 (by rfl) ⟨j, seq, k₀, rfl, ⟨v₀, h1, h2, h3, hJ⟩, ?_⟩
  rintro k ⟨l, s⟩ ⟨v, e1, e2, e3, hj⟩
  dsimp only at e1 e2 e3 hj
  obtain ⟨g1, vs, g2, g3, g4⟩ := hF k v s hj
  refine ⟨g1, vs, g2, fun el hel => ?_, fun hl => ?_⟩
  · refine Asg_name (Ok.of (by rfl)) ?_
    show Exs _ (_ :: _) _ _
    refine Exs_cons (Ex_asg (by rfl) (Ok.of (by rfl)) ?_)
    refine Ev_call (by rfl) (by decide) (Ev_name (v := .con f) ?_ (by rfl) ⟨f, rfl, hk, ?_⟩)
    · rw [lookup_cons_ne _ _ (by decide)]; exact e3
    refine Evs_cons (by rfl) (Ev_name (v := v) ?_ (by rfl) (Evs_cons (by rfl) (Ev_name (v := el) ?_ (by rfl) (Evs_nil ?_))))
    · rw [lookup_cons_ne _ _ (by decide)]; exact e1
    · rw [lookup_cons_self]
    refine CallV_fun (n := n) ((g3 el hel).mono fun r s' hr => ?_) hn
    refine Exs_nil ⟨[(Str.ofString "value", r), (Str.ofString "it", .ref j), (Str.ofString "function", .con f)], ?_, ⟨r, rfl, rfl, rfl, hr.1⟩, hr.2⟩
    refine .cons (lookup_cons_self _ _ _) (.cons ?_ (.cons ?_ .nil))
    · rw [lookup_cons_ne _ _ (by decide), lookup_cons_ne _ _ (by decide)]; exact e2
    · rw [lookup_cons_ne _ _ (by decide), lookup_cons_ne _ _ (by decide)]; exact e3
  · refine Exs_nil ?_
    show Exs _ (_ :: _) _ _
    refine Exs_cons (Ex_ret (Ev_name (v := v) e1 (by rfl) ?_))
    exact g4 hl

structure RFn (G : Gl) (a m : Addr) : Prop where
  fn : ∃ T, Fn G a 2 (.ref T) ∧ ∃ o n, G.s0.heap.get? T = some o ∧ o.data = .seq #[.ref m] n
  miss : Miss G m

theorem boot_iter' : bootBuiltins (Str.ofString "iter") = some (.builtin "iter") := by decide +kernel
theorem boot_next' : bootBuiltins (Str.ofString "next") = some (.builtin "next") := by decide +kernel

/-- the head of the fold over a list: a new iterator -/
theorem reduce_list {G : Gl} {n n' : Nat} {m : Addr} {f : Value} {seq init : V} {J : Nat → V → List MO → Prop} {meas : Nat → List MO → Nat} {Q : V → List MO → Prop} {sto : List MO} {vs : List V} (M : Miss G m) (hk : Kp G f) (hn : n ≤ n') (hv : ListV ⟨[], sto⟩ seq vs)
    (hF : Fold G n f seq sto.length J meas Q)
    (hi : (NotCon init = true ∧ J 0 init (sto ++ [.iter seq 0])) ∨ (init = .con (.ref m) ∧ ∃ v, vs[0]? = some v ∧ J 1 v (sto ++ [.iter seq 1]))) :
    Exs (cx G 2 n') (bodyAt 2) ⟨[(Str.ofString "initial", init), (Str.ofString "sequence", seq), (Str.ofString "function", .con f)], sto⟩ fun fl σ => Q fl.val σ.sto := by
  show Exs _ (_ :: _) _ _
  refine Exs_cons (Ex_asg (by rfl) (Ok.of (by rfl)) ?_)
  refine Ev_call (by rfl) (by decide) (Ev_boot M.iter boot_iter' (by rfl) ⟨_, rfl, Kp_builtin, ?_⟩)
  refine Evs_cons (by rfl) (Ev_name (v := seq) rfl (by rfl) (Evs_nil (Call_iter hv ?_)))
  show Exs _ (_ :: _) _ _
  refine Exs_cons (Ex_if ?_)
  refine Tst_cmp (by rfl) (Ev_name (v := init) rfl (by rfl) (Ev_glob M.name (by rfl) ?_))
  obtain ⟨o, ho, hc⟩ := M.obj
  have hlen : (sto ++ [MO.iter seq 0])[sto.length]? = some (.iter seq 0) := by simp
  rcases hi with ⟨hi, hJ⟩ | ⟨rfl, v, hv0, hJ⟩
  · refine Is_obj hi ho hc (TruV_bool ?_)
    simp only [Bool.false_eq_true, if_false]
    show Exs _ (_ :: _) _ _
    refine Exs_cons (Ex_asg (by rfl) (Ok.of (by rfl)) (Ev_name (v := init) rfl (by rfl) ?_))
    refine Exs_nil ?_
    exact reduce_tail hk hn hF hJ rfl rfl rfl
  · refine Is_self (TruV_bool ?_)
    simp only [if_true]
    show Exs _ (_ :: _) _ _
    refine Exs_cons (Ex_try ?_)
    show Exs _ (_ :: _) _ _
    refine Exs_cons (Ex_asg (by rfl) (Ok.of (by rfl)) ?_)
    refine Ev_call (by rfl) (by decide) (Ev_boot M.next boot_next' (by rfl) ⟨_, rfl, Kp_builtin, ?_⟩)
    refine Evs_cons (by rfl) (Ev_name (v := .ref sto.length) rfl (by rfl) (Evs_nil (Call_next (vs := vs) (u := v) hlen ?_ hv0 ?_)))
    · rcases hv with rfl | ⟨i, rfl, hi⟩
      · exact .inl rfl
      · exact .inr ⟨i, rfl, by dsimp only at hi ⊢; rw [List.getElem?_append_left (List.getElem?_eq_some_iff.mp hi).1]; exact hi⟩
    · refine Exs_nil (Exs_nil (Exs_nil ?_))
      have e : (sto ++ [MO.iter seq 0]).set sto.length (.iter seq (0 + 1)) = sto ++ [.iter seq 1] := by simp
      rw [e]
      exact reduce_tail hk hn hF hJ rfl rfl rfl
/-- .. over an iterator -/
theorem reduce_iter {G : Gl} {n n' : Nat} {m : Addr} {f : Value} {seq init : V} {j : Nat} {J : Nat → V → List MO → Prop} {meas : Nat → List MO → Nat} {Q : V → List MO → Prop} {sto : List MO} {vs : List V} (M : Miss G m) (hk : Kp G f) (hn : n ≤ n') (hj : sto[j]? = some (.iter seq 0)) (hv : ListV ⟨[], sto⟩ seq vs)
    (hF : Fold G n f seq j J meas Q) (hi : NotCon init = true) (hJ : J 0 init sto) :
    Exs (cx G 2 n') (bodyAt 2) ⟨[(Str.ofString "initial", init), (Str.ofString "sequence", .ref j), (Str.ofString "function", .con f)], sto⟩ fun fl σ => Q fl.val σ.sto := by
  show Exs _ (_ :: _) _ _
  refine Exs_cons (Ex_asg (by rfl) (Ok.of (by rfl)) ?_)
  refine Ev_call (by rfl) (by decide) (Ev_boot M.iter boot_iter' (by rfl) ⟨_, rfl, Kp_builtin, ?_⟩)
  refine Evs_cons (by rfl) (Ev_name (v := .ref j) rfl (by rfl) (Evs_nil (Call_iterI hj hv ?_)))
  show Exs _ (_ :: _) _ _
  refine Exs_cons (Ex_if ?_)
  refine Tst_cmp (by rfl) (Ev_name (v := init) rfl (by rfl) (Ev_glob M.name (by rfl) ?_))
  obtain ⟨o, ho, hc⟩ := M.obj
  refine Is_obj hi ho hc (TruV_bool ?_)
  simp only [Bool.false_eq_true, if_false]
  show Exs _ (_ :: _) _ _
  refine Exs_cons (Ex_asg (by rfl) (Ok.of (by rfl)) (Ev_name (v := init) rfl (by rfl) ?_))
  refine Exs_nil ?_
  exact reduce_tail hk hn hF hJ rfl rfl rfl

theorem red_bind3 {G : Gl} {a m : Addr} {n : Nat} {f : Value} {seq init : V} {sto : List MO} {Q : V → List MO → Prop} (R : RFn G a m) (h : Exs (cx G 2 n) (bodyAt 2) ⟨[(Str.ofString "initial", init), (Str.ofString "sequence", seq), (Str.ofString "function", .con f)], sto⟩ fun fl σ => Q fl.val σ.sto) :
    Calls G (n + 1) (.ref a) [.con f, seq, init] sto Q := by
  obtain ⟨T, ⟨nm, kV, doc, pm, an, cd, ct, F⟩, o, k, ho, hd⟩ := R.fn
  refine Calls_def F [(Str.ofString "function", .con f), (Str.ofString "sequence", seq), (Str.ofString "initial", init)] (fun W s xs hS hx => ?_) (by rfl) h
  obtain ⟨x, y, z, rfl, r, r', r''⟩ := three_of hx
  exact ⟨_, .cons r (.cons r' (.cons r'' .nil)), BindsTo.of_defaults rfl (base_keeps hS _ _ ho) hd rfl rfl⟩
theorem red_bind2 {G : Gl} {a m : Addr} {n : Nat} {f : Value} {seq : V} {sto : List MO} {Q : V → List MO → Prop} (R : RFn G a m) (h : Exs (cx G 2 n) (bodyAt 2) ⟨[(Str.ofString "initial", .con (.ref m)), (Str.ofString "sequence", seq), (Str.ofString "function", .con f)], sto⟩ fun fl σ => Q fl.val σ.sto) :
    Calls G (n + 1) (.ref a) [.con f, seq] sto Q := by
  obtain ⟨T, ⟨nm, kV, doc, pm, an, cd, ct, F⟩, o, k, ho, hd⟩ := R.fn
  refine Calls_def F [(Str.ofString "function", .con f), (Str.ofString "sequence", seq), (Str.ofString "initial", .con (.ref m))] (fun W s xs hS hx => ?_) (by rfl) h
  obtain ⟨x, y, rfl, r, r'⟩ := two_of hx
  exact ⟨_, .cons r (.cons r' (.cons (.con _) .nil)), BindsTo.of_defaults rfl (base_keeps hS _ _ ho) hd rfl rfl⟩

theorem trim_all {k : Nat} {s s' : List MO} {v : V} (hs : s.take k = s') (hk : k ≤ s.length) (hp : v.lo k = true) (hc : ∀ m ∈ s', ResM s k m m) : Trim k s v s' v := by
  subst hs
  refine ⟨Res.lo v hp, by rw [List.length_take]; omega, hk, fun i m m' hi e e' => ?_⟩
  rw [List.getElem?_take, if_pos hi, e] at e'
  cases e'
  exact hc m (List.mem_of_getElem? (by rw [List.getElem?_take, if_pos hi]; exact e))
def MO.lo (k : Nat) : MO → Bool
  | .list vs => los k vs
  | .dict ds => dlos k ds
  | .tup vs => los k vs
  | .iter v _ => v.lo k
  | .junk => true
theorem MO.res {s : List MO} {k : Nat} {m : MO} (h : m.lo k = true) : ResM s k m m := by
  cases m with
  | list vs => exact .list (Ress.lo vs h)
  | dict ds => exact .dict (DRess.lo ds h)
  | tup vs => exact .tup (Ress.lo vs h)
  | iter v n => exact .iter (Res.lo v h)
  | junk => exact .junk _
/-- the places below are closed -/
def Clo (s : List MO) : Prop := ∀ o ∈ s, o.lo s.length = true

/-- a fold of data by a step that stores nothing -/
theorem reduce_pure {G : Gl} {a m : Addr} {n : Nat} {f : Value} {vs : List V} {acc : Nat → V} {sto : List MO} (R : RFn G a m) (hk : Kp G f) (h0 : NotCon (acc 0) = true) (hp : (acc vs.length).lo sto.length = true) (hs : Clo sto)
    (hstep : ∀ k el s, vs[k]? = some el → Calls G n f [acc k, el] s fun r s' => r = acc (k + 1) ∧ s' = s) : Calls G (n + 1) (.ref a) [.con f, .lst vs, acc 0] sto fun r s => r = acc vs.length ∧ s = sto := by
  refine Calls_trim (Q' := fun r s => r = acc vs.length ∧ s = sto ++ [.junk]) (red_bind3 R (reduce_list (vs := vs) R.miss hk (Nat.le_refl n) (.inl rfl) (Q := fun r s => r = acc vs.length ∧ s = sto ++ [.junk])
    (J := fun k v s => v = acc k ∧ k ≤ vs.length ∧ s = sto ++ [.iter (.lst vs) k]) (meas := fun k _ => vs.length - k) ?_ (.inl ⟨h0, rfl, Nat.zero_le _, rfl⟩))) ?_
  · rintro k v s ⟨rfl, hkl, rfl⟩
    refine ⟨by simp, vs, .inl rfl, fun el hel => ?_, fun hl => ⟨by rw [show k = vs.length by omega], by simp⟩⟩
    have hb := (List.getElem?_eq_some_iff.mp hel).1
    refine (hstep k el _ hel).mono fun r s' ⟨h1, h2⟩ => ⟨⟨h1, hb, by rw [h2]; simp⟩, by dsimp only; omega⟩
  · rintro v s ⟨rfl, rfl⟩
    exact ⟨_, sto, trim_all (by simp) (by simp) hp fun o ho => MO.res (hs o ho), rfl, rfl⟩
/-- .. without a start -/
theorem reduce_pure2 {G : Gl} {a m : Addr} {n : Nat} {f : Value} {vs : List V} {acc : Nat → V} {sto : List MO} (R : RFn G a m) (hk : Kp G f) (h0 : vs[0]? = some (acc 1)) (hp : (acc vs.length).lo sto.length = true) (hs : Clo sto)
    (hstep : ∀ k el s, 0 < k → vs[k]? = some el → Calls G n f [acc k, el] s fun r s' => r = acc (k + 1) ∧ s' = s) : Calls G (n + 1) (.ref a) [.con f, .lst vs] sto fun r s => r = acc vs.length ∧ s = sto := by
  have h1 := (List.getElem?_eq_some_iff.mp h0).1
  refine Calls_trim (Q' := fun r s => r = acc vs.length ∧ s = sto ++ [.junk]) (red_bind2 R (reduce_list (vs := vs) R.miss hk (Nat.le_refl n) (.inl rfl) (Q := fun r s => r = acc vs.length ∧ s = sto ++ [.junk])
    (J := fun k v s => v = acc k ∧ 0 < k ∧ k ≤ vs.length ∧ s = sto ++ [.iter (.lst vs) k]) (meas := fun k _ => vs.length - k) ?_ (.inr ⟨rfl, _, h0, rfl, Nat.zero_lt_one, h1, rfl⟩))) ?_
  · rintro k v s ⟨rfl, hk0, hkl, rfl⟩
    refine ⟨by simp, vs, .inl rfl, fun el hel => ?_, fun hl => ⟨by rw [show k = vs.length by omega], by simp⟩⟩
    have hb := (List.getElem?_eq_some_iff.mp hel).1
    refine (hstep k el _ hk0 hel).mono fun r s' ⟨h1, h2⟩ => ⟨⟨h1, by omega, hb, by rw [h2]; simp⟩, by dsimp only; omega⟩
  · rintro v s ⟨rfl, rfl⟩
    exact ⟨_, sto, trim_all (by simp) (by simp) hp fun o ho => MO.res (hs o ho), rfl, rfl⟩
/-- .. by what the steps hold -/
theorem reduce_rel {G : Gl} {a m : Addr} {n : Nat} {f : Value} {vs : List V} {P : Nat → V → Prop} {init : V} {sto : List MO} (R : RFn G a m) (hk : Kp G f) (hN : NotCon init = true) (h0 : P 0 init) (hp : ∀ v, P vs.length v → v.lo sto.length = true) (hs : Clo sto)
    (hstep : ∀ k v el s, P k v → vs[k]? = some el → Calls G n f [v, el] s fun r s' => P (k + 1) r ∧ s' = s) : Calls G (n + 1) (.ref a) [.con f, .lst vs, init] sto fun r s => P vs.length r ∧ s = sto := by
  refine Calls_trim (Q' := fun r s => P vs.length r ∧ s = sto ++ [.junk]) (red_bind3 R (reduce_list (vs := vs) R.miss hk (Nat.le_refl n) (.inl rfl) (Q := fun r s => P vs.length r ∧ s = sto ++ [.junk])
    (J := fun k v s => P k v ∧ k ≤ vs.length ∧ s = sto ++ [.iter (.lst vs) k]) (meas := fun k _ => vs.length - k) ?_ (.inl ⟨hN, h0, Nat.zero_le _, rfl⟩))) ?_
  · rintro k v s ⟨hv, hkl, rfl⟩
    refine ⟨by simp, vs, .inl rfl, fun el hel => ?_, fun hl => ⟨by rw [show vs.length = k by omega]; exact hv, by simp⟩⟩
    have hb := (List.getElem?_eq_some_iff.mp hel).1
    refine (hstep k v el _ hv hel).mono fun r s' ⟨h1, h2⟩ => ⟨⟨h1, hb, by rw [h2]; simp⟩, by dsimp only; omega⟩
  · rintro v s ⟨hv, rfl⟩
    exact ⟨_, sto, trim_all (by simp) (by simp) (hp v hv) fun o ho => MO.res (hs o ho), hv, rfl⟩
theorem reduce_rel2 {G : Gl} {a m : Addr} {n : Nat} {f : Value} {vs : List V} {P : Nat → V → Prop} {v0 : V} {sto : List MO} (R : RFn G a m) (hk : Kp G f) (hv0 : vs[0]? = some v0) (h0 : P 1 v0) (hp : ∀ v, P vs.length v → v.lo sto.length = true) (hs : Clo sto)
    (hstep : ∀ k v el s, 0 < k → P k v → vs[k]? = some el → Calls G n f [v, el] s fun r s' => P (k + 1) r ∧ s' = s) : Calls G (n + 1) (.ref a) [.con f, .lst vs] sto fun r s => P vs.length r ∧ s = sto := by
  have h1 := (List.getElem?_eq_some_iff.mp hv0).1
  refine Calls_trim (Q' := fun r s => P vs.length r ∧ s = sto ++ [.junk]) (red_bind2 R (reduce_list (vs := vs) R.miss hk (Nat.le_refl n) (.inl rfl) (Q := fun r s => P vs.length r ∧ s = sto ++ [.junk])
    (J := fun k v s => P k v ∧ 0 < k ∧ k ≤ vs.length ∧ s = sto ++ [.iter (.lst vs) k]) (meas := fun k _ => vs.length - k) ?_ (.inr ⟨rfl, _, hv0, h0, Nat.zero_lt_one, h1, rfl⟩))) ?_
  · rintro k v s ⟨hv, hk0, hkl, rfl⟩
    refine ⟨by simp, vs, .inl rfl, fun el hel => ?_, fun hl => ⟨by rw [show vs.length = k by omega]; exact hv, by simp⟩⟩
    have hb := (List.getElem?_eq_some_iff.mp hel).1
    refine (hstep k v el _ hk0 hv hel).mono fun r s' ⟨h1, h2⟩ => ⟨⟨h1, by omega, hb, by rw [h2]; simp⟩, by dsimp only; omega⟩
  · rintro v s ⟨hv, rfl⟩
    exact ⟨_, sto, trim_all (by simp) (by simp) (hp v hv) fun o ho => MO.res (hs o ho), hv, rfl⟩
def W0 (h : Heap) : Wd := fun a => match h.get? a with | some o => .froz o | none => .out
theorem W0_some {h : Heap} {a : Addr} {o : Obj} (e : h.get? a = some o) : W0 h a = .froz o := by unfold W0; rw [e]
theorem sim0 (G : Gl) : SimG G (W0 G.s0.heap) [] G.s0 := by
  refine ⟨⟨_, _, rfl⟩, fun a o e => W0_some e, fun a => ?_, fun a b i e => ?_, fun a i e => ?_⟩
  · unfold W0
    cases e : G.s0.heap.get? a with
    | some o => exact e
    | none => trivial
  · unfold W0 at e
    split at e <;> cases e
  · unfold W0 at e
    split at e <;> cases e
theorem W0_own {h : Heap} (a : Addr) : W0 h a ≠ .own := by
  intro e
  unfold W0 at e
  split at e <;> cases e
theorem ints_vr {w : World} {W : Wd} : ∀ {vals : List Value} {ns : List Int}, IntsAre vals ns → VRs w W (ns.map V.int) vals
  | _, _, .nil => .nil
  | _, _, .cons n t r => .cons (.int n t) (ints_vr r)
theorem room0 : AOk 200 callerA := by
  refine ⟨rfl, ?_, ?_⟩ <;> decide +kernel
theorem law_ends {G : Gl} {a l : Addr} {vals : List Value} {ns : List Int} {c : ClaimW} {cl : Str → Option Addr} {mean : ExcName → Option Value} {args : List WData} (hg : G.s0.gens = #[]) (hL : G.s0.heap.IsList l vals.toArray) (hI : IntsAre vals ns)
    (hr : ∀ cls, c.raises args cls = false) (hp : c.post args (.bool true) args = true) {n₀ : Nat} (hc : Calls G n₀ (.ref a) [.lst (ns.map V.int)] [] fun v _ => v = .bool true) (hn₀ : n₀ ≤ 200 := by decide) :
    codeAny (model G.prog G.w) callerA (.call (.ref a) ⟨[.ref l], []⟩) (GoodWG c cl mean args G.s0) G.s0 := by
  obtain ⟨o, ho, hcl, n, hd⟩ := hL
  refine codeAny_mono (hc.more hn₀ (W0 G.s0.heap) G.s0 callerA [.ref l] (fun b => W0_own b) room0 (sim0 G) (.cons (.lst (W0_some ho) hcl hd (ints_vr hI)) .nil)) ?_
  rintro r s' ⟨x, v, sto', W', rfl, rfl, hle, -, hv, S⟩
  cases hv
  obtain ⟨h', tk, rfl⟩ := S.sh
  refine GoodW.toG ⟨.inl ⟨_, _, [], rfl, hr, .bool true, hp, fun _ => ⟨List.nodup_nil, fun b hb => nomatch hb⟩⟩, base_keeps S, rfl, hg⟩
theorem Fn_of {K : Frag} {G : Gl} {a : Addr} {k : Nat} {nm : Str} {kV doc pm dV cdv ct oc : Value} {an od : Option Addr} {osl : Array (Option Value)} (X : K.In G.s0.heap) (hb : okAt k = true)
    (ho : K.lookup a = some ⟨oc, od, .func (fnX nm nm (argsAt k) (bodyAt k) (scopeAt k) [] dV kV doc pm an cdv ct), osl⟩) (hcd : codeIn K cdv nm = true) : Fn G a k dV := by
  simp only [okAt, Bool.and_eq_true, beq_iff_eq, Bool.not_eq_true'] at hb
  obtain ⟨⟨⟨h1, h2⟩, h3⟩, h4⟩ := hb
  exact ⟨nm, kV, doc, pm, an, cdv, ct, ⟨_, X _ _ ho, rfl⟩, rfl, h1, h2, h3, rfl, rfl, rfl, codeRec_of X hcd, h4⟩
theorem Kp_of {K : Frag} {G : Gl} {a : Addr} {fd : FuncData} {oc : Value} {od : Option Addr} {osl : Array (Option Value)} (X : K.In G.s0.heap) (ho : K.lookup a = some ⟨oc, od, .func fd, osl⟩) : Kp G (.ref a) := Kp_func (X _ _ ho) rfl
theorem Fn.kp {G : Gl} {a : Addr} {k : Nat} {dV : Value} (h : Fn G a k dV) : Kp G (.ref a) := by
  obtain ⟨nm, kV, doc, pm, an, cd, ct, F⟩ := h
  obtain ⟨o, ho, hd⟩ := F.at_
  exact Kp_func ho hd
theorem name_of {K : Frag} {G : Gl} {x : Str} {v : Value} (X : K.In G.s0.heap) (e : nsIn K mainGlobals x = some (some v)) : G.mg x = some v := mg_of X G.g e
theorem none_of {K : Frag} {G : Gl} {x : Str} (X : K.In G.s0.heap) (e : nsIn K mainGlobals x = some none) : G.mg x = none := mg_none_of X G.g e
theorem miss_of {K : Frag} {G : Gl} {m : Addr} {od : Option Addr} {dd : Data} {osl : Array (Option Value)} (X : K.In G.s0.heap) (e : nsIn K mainGlobals "_initial_missing" = some (some (.ref m))) (ho : K.lookup m = some ⟨.type "object", od, dd, osl⟩)
    (e2 : nsIn K mainGlobals "iter" = some none) (e3 : nsIn K mainGlobals "next" = some none) : Miss G m := ⟨name_of X e, ⟨_, X _ _ ho, rfl⟩, none_of X e2, none_of X e3⟩
theorem red_of {K : Frag} {G : Gl} {a m T : Addr} {oc : Value} {od : Option Addr} {n : Nat} {osl : Array (Option Value)} (X : K.In G.s0.heap) (h : Fn G a 2 (.ref T)) (ho : K.lookup T = some ⟨oc, od, .seq #[.ref m] n, osl⟩) (hm : Miss G m) : RFn G a m := ⟨⟨T, h, _, _, X _ _ ho, rfl⟩, hm⟩
theorem law_post (l : OpenLaw) (args : List WData) : l.row.claim.post args (.bool true) args = true := by
  show (WShape.has [] (.bool true) .bool && WTm.holds [] (.eq .res (.lit (.bool true))) { args := args, res := some (.bool true), after := args }) = true
  simp [WShape.has, WTm.holds, WTm.value, WShape.arms, PySem.W.same]
theorem fn_at {K : Frag} {G : Gl} {x : Str} {a : Addr} {k : Nat} {nm : Str} {kV doc pm dV cdv ct oc : Value} {an od : Option Addr} {osl : Array (Option Value)} (X : K.In G.s0.heap) (e : nsIn K mainGlobals x = some (some (.ref a))) (hb : okAt k = true)
    (ho : K.lookup a = some ⟨oc, od, .func (fnX nm nm (argsAt k) (bodyAt k) (scopeAt k) [] dV kV doc pm an cdv ct), osl⟩) (hcd : codeIn K cdv nm = true) : G.mg x = some (.ref a) ∧ Fn G a k dV ∧ Kp G (.ref a) :=
  ⟨name_of X e, Fn_of X hb ho hcd, Kp_of X ho⟩
local macro_rules | `(tactic| walk_at "ev") => `(tactic| first
  | ((with_reducible refine Ex_asgT ?hm ?hn ?_); (case hm => rfl); (case hn => rfl))
  | ((with_reducible refine Asg_tup ?hm ?hn ?_); (case hm => rfl); (case hn => rfl))
  | ((with_reducible refine AsgL_cons ?hm ?_); (case hm => rfl))
  | (with_reducible refine AsgL_nil ?_)
  | (with_reducible refine Ev_slice ?_)
  | (with_reducible refine Ev_sub ?_)
  | (with_reducible refine Part_none ?_)
  | (with_reducible refine Part_some ?_)
  | ((with_reducible refine Ev_call ?hm ?hn ?_); (case hm => rfl); (case hn => decide))
  | (with_reducible refine Ev_call0 ?_)
  | (with_reducible refine Ev_una ?_)
  | (with_reducible refine Exs_cons ?_)
  | (with_reducible refine Exs_nil ?_)
  | ((with_reducible refine Then_next ?_); (try dsimp only))
  | (with_reducible refine Then_ret ?_)
  | (with_reducible refine Ev_int ?_)
  | (with_reducible refine Ev_none ?_)
  | (with_reducible refine Ev_bool ?_)
  | (with_reducible refine Ev_str ?_)
  | ((with_reducible refine' Ev_name ?hx ?hl ?_); (case hx => rfl); (case hl => rfl))
  | (with_reducible refine Ev_bin ?_)
  | ((with_reducible refine Ev_cmp ?hm ?_); (case hm => with_unfolding_all rfl))
  | (with_reducible refine Ev_ifexp ?_)
  | ((with_reducible refine Ev_tup ?hm ?_); (case hm => decide))
  | (with_reducible refine Evs_nil ?_)
  | ((with_reducible refine Evs_cons ?hm ?_); (case hm => rfl))
  | ((with_reducible refine Tst_cmp ?hm ?_); (case hm => with_unfolding_all rfl))
  | (with_reducible refine Tst_not ?_)
  | (with_reducible refine Tst_bool ?_)
  | (with_reducible refine All_nil ?_)
  | (with_reducible refine All_or ?_)
  | (with_reducible refine All_and ?_)
  | (with_reducible refine TruV_bool ?_)
  | (with_reducible refine Bin_add ?_)
  | (with_reducible refine Bin_sub ?_)
  | ((with_reducible refine Bin_mod ?hm ?_); (case hm => decide))
  | ((with_reducible refine Bin_div ?hm ?hn ?_); (case hm => decide); (case hn => decide))
  | (with_reducible refine Una_neg ?_)
  | (with_reducible refine Cmp_eqi ?_)
  | (with_reducible refine Cmp_nei ?_)
  | (with_reducible refine Cmp_lti ?_)
  | (with_reducible refine Cmp_lei ?_)
  | (with_reducible refine Cmp_gti ?_)
  | (with_reducible refine Cmp_gei ?_)
  | (with_reducible refine Ex_ret ?_)
  | (with_reducible refine Ex_if ?_)
  | ((with_reducible refine Ex_asg ?hm (Ok.of ?hn) ?_); (case hm => rfl); (case hn => rfl))
  | ((with_reducible refine Ex_expr ?hm ?hn ?_); (case hm => rfl); (case hn => rfl))
  | ((with_reducible refine Asg_name (Ok.of ?hn) ?_); (case hn => rfl)))
/-! subsets of four places as numbers below 16 -/
def dig (s : Nat) : List Nat := (List.range 4).filter fun p => s.testBit p
section
variable (mv : Nat → Nat)
def img (s b : Nat) : Nat := (dig s).foldl (fun a p => a ||| mv (2 * p + b)) 0
theorem fold_or_bit (f : Nat → Nat) (o : Nat) : ∀ (l : List Nat) (a : Nat), (l.foldl (fun a p => a ||| f p) a).testBit o = (a.testBit o || l.any fun p => (f p).testBit o)
  | [], a => by simp
  | p :: l, a => by
    rw [List.foldl_cons, fold_or_bit f o l, Nat.testBit_or, List.any_cons, Bool.or_assoc]
theorem img_bit (s b o : Nat) : (img mv s b).testBit o = (dig s).any fun p => (mv (2 * p + b)).testBit o := by
  unfold img
  rw [fold_or_bit]
  simp
theorem img_lt (hm : ∀ k, mv k < 16) (s b : Nat) : img mv s b < 16 := by
  have key : ∀ (l : List Nat) (a : Nat), a < 16 → l.foldl (fun a p => a ||| mv (2 * p + b)) a < 16 := by
    intro l
    induction l with
    | nil => intro a h; exact h
    | cons p l ih => intro a h; exact ih _ (Nat.or_lt_two_pow (n := 4) h (hm _))
  exact key _ _ (by decide)
variable (f0 : Nat)
/-- the set that the word told by n leads to -/
def R (n : Nat) : Nat := if h : n ≤ 1 then f0 else img mv (R (n / 2)) (n % 2)
termination_by n
decreasing_by omega
theorem R_one : R mv f0 1 = f0 := by rw [R, dif_pos (Nat.le_refl _)]
theorem R_big {n : Nat} (h : 2 ≤ n) : R mv f0 n = img mv (R mv f0 (n / 2)) (n % 2) := by rw [R, dif_neg (by omega)]
theorem R_two (n b : Nat) (h : 1 ≤ n) (hb : b < 2) : R mv f0 (2 * n + b) = img mv (R mv f0 n) b := by
  rw [R_big mv f0 (by omega), show (2 * n + b) / 2 = n by omega, show (2 * n + b) % 2 = b by omega]
theorem R_lt (hm : ∀ k, mv k < 16) (h0 : f0 < 16) (n : Nat) : R mv f0 n < 16 := by
  by_cases h : n ≤ 1
  · rw [R, dif_pos h]; exact h0
  · rw [R, dif_neg h]; exact img_lt mv hm _ _
/-- n is the first that leads there -/
abbrev isF (n : Nat) : Prop := 1 ≤ n ∧ ∀ m, m < n → 1 ≤ m → R mv f0 m ≠ R mv f0 n
theorem isF_one : isF mv f0 1 := ⟨Nat.le_refl _, fun m h k => by omega⟩
theorem isF_half {n : Nat} (h : 2 ≤ n) (hf : isF mv f0 n) : isF mv f0 (n / 2) := by
  refine ⟨by omega, fun m hm h1 e => ?_⟩
  refine hf.2 (2 * m + n % 2) (by omega) (by omega) ?_
  rw [R_two mv f0 m _ h1 (by omega), e, R_big mv f0 h]
theorem least (n : Nat) (h : 1 ≤ n) : ∃ m, m ≤ n ∧ isF mv f0 m ∧ R mv f0 m = R mv f0 n := by
  induction n using Nat.strongRecOn with
  | ind n ih =>
    by_cases hf : isF mv f0 n
    · exact ⟨n, Nat.le_refl _, hf, rfl⟩
    · have : ∃ m, m < n ∧ 1 ≤ m ∧ R mv f0 m = R mv f0 n := by
        apply Classical.byContradiction
        intro hne
        exact hf ⟨h, fun m h1 h2 e => hne ⟨m, h1, h2, e⟩⟩
      obtain ⟨m, h1, h2, e⟩ := this
      obtain ⟨m', k1, k2, k3⟩ := ih m h1 h2
      exact ⟨m', by omega, k2, k3.trans e⟩
/-- the firsts below N -/
def FC (N : Nat) : List Nat := (List.range N).filter fun n => decide (isF mv f0 n)
theorem mem_FC {N n : Nat} : n ∈ FC mv f0 N ↔ n < N ∧ isF mv f0 n := by rw [FC, List.mem_filter, List.mem_range, decide_eq_true_iff]
theorem FC_succ (N : Nat) : FC mv f0 (N + 1) = FC mv f0 N ++ if isF mv f0 N then [N] else [] := by
  unfold FC
  rw [List.range_succ, List.filter_append]
  congr 1
  by_cases h : isF mv f0 N
  · rw [if_pos h]
    exact (List.filter_cons_of_pos (p := fun n => decide (isF mv f0 n)) (decide_eq_true h)).trans rfl
  · rw [if_neg h]
    exact (List.filter_cons_of_neg (p := fun n => decide (isF mv f0 n)) (fun e => h (of_decide_eq_true e))).trans rfl
theorem FC_two : FC mv f0 2 = [1] := by
  rw [FC_succ, FC_succ, if_pos (isF_one mv f0), if_neg (fun h => absurd h.1 (by decide))]
  rfl
theorem FC_sorted (N : Nat) : (FC mv f0 N).Pairwise (· < ·) := List.Pairwise.filter _ List.pairwise_lt_range
theorem FC_prefix {M N : Nat} (h : M ≤ N) : FC mv f0 M <+: FC mv f0 N := by
  induction N with
  | zero => obtain rfl : M = 0 := by omega
            exact List.prefix_refl _
  | succ N ih =>
    rcases Nat.lt_or_eq_of_le h with h | rfl
    · exact (ih (by omega)).trans (by rw [FC_succ]; exact List.prefix_append _ _)
    · exact List.prefix_refl _
theorem FC_nodup (N : Nat) : ((FC mv f0 N).map (R mv f0)).Nodup := by
  rw [List.nodup_iff_pairwise_ne, List.pairwise_map]
  refine List.Pairwise.imp_of_mem (fun {a b} ha hb hab e => ?_) (FC_sorted mv f0 N)
  exact ((mem_FC mv f0).mp hb).2.2 a hab ((mem_FC mv f0).mp ha).2.1 e
theorem nodup_small : ∀ (n : Nat) (l : List Nat), l.Nodup → (∀ x ∈ l, x < n) → l.length ≤ n
  | 0, l, _, h => by cases l with
    | nil => exact Nat.le_refl _
    | cons a l => exact absurd (h a (.head _)) (Nat.not_lt_zero _)
  | n + 1, l, hd, h => by
    have := nodup_small n (l.erase n) (hd.erase n) fun x hx => by
      have h1 := h x (List.mem_of_mem_erase hx)
      have h2 : x ≠ n := fun e => by subst e; exact (List.Nodup.not_mem_erase hd) hx
      omega
    have h3 := List.length_erase (a := n) (l := l)
    split at h3 <;> omega
theorem FC_len (hm : ∀ k, mv k < 16) (h0 : f0 < 16) (N : Nat) : (FC mv f0 N).length ≤ 16 := by
  have := nodup_small 16 ((FC mv f0 N).map (R mv f0)) (FC_nodup mv f0 N) fun x hx => by
    obtain ⟨n, -, rfl⟩ := List.mem_map.mp hx
    exact R_lt mv f0 hm h0 n
  rwa [List.length_map] at this
/-- beyond N there is none -/
def Fin1 (N : Nat) : Prop := ∀ n, N ≤ n → ¬ isF mv f0 n
theorem chain (n : Nat) (d : Nat) (hd : 2 ^ d ≤ n) (hf : isF mv f0 n) : d + 1 ≤ (FC mv f0 (n + 1)).length := by
  induction d generalizing n with
  | zero =>
    have : n ∈ FC mv f0 (n + 1) := (mem_FC mv f0).mpr ⟨by omega, hf⟩
    exact List.length_pos_of_mem this
  | succ d ih =>
    have h2 : 2 ≤ n := by have := Nat.pow_succ 2 d; have := Nat.one_le_two_pow (n := d); omega
    have hh := ih (n / 2) (by have := Nat.pow_succ 2 d; omega) (isF_half mv f0 h2 hf)
    have hp := (FC_prefix mv f0 (show n / 2 + 1 ≤ n by omega)).length_le
    rw [FC_succ, if_pos hf, List.length_append, List.length_singleton]
    omega
theorem fin_ex (hm : ∀ k, mv k < 16) (h0 : f0 < 16) : Fin1 mv f0 65536 := by
  intro n hn hf
  have := chain mv f0 n 16 hn hf
  have := FC_len mv f0 hm h0 (n + 1)
  omega
def CC : List Nat := FC mv f0 65536
/-- the sets in their order -/
def DD : List Nat := (CC mv f0).map (R mv f0)
theorem mem_CC (hm : ∀ k, mv k < 16) (h0 : f0 < 16) {n : Nat} : n ∈ CC mv f0 ↔ isF mv f0 n := by
  unfold CC
  rw [mem_FC]
  refine ⟨fun h => h.2, fun h => ⟨?_, h⟩⟩
  apply Classical.byContradiction
  intro hn
  exact fin_ex mv f0 hm h0 n (by omega) h
end
section
variable (mv : Nat → Nat) (f0 : Nat)
theorem CC_sorted : (CC mv f0).Pairwise (· < ·) := FC_sorted mv f0 _
theorem FC_pre {M : Nat} (h : M ≤ 65536) : FC mv f0 M <+: CC mv f0 := FC_prefix mv f0 h
theorem FC_top (hm : ∀ k, mv k < 16) (h0 : f0 < 16) {M : Nat} (h : 65536 ≤ M) : FC mv f0 M = CC mv f0 := by
  induction M with
  | zero => omega
  | succ M ih =>
    rcases Nat.lt_or_eq_of_le h with h | h
    · rw [FC_succ, if_neg (fin_ex mv f0 hm h0 M (by omega)), List.append_nil]; exact ih (by omega)
    · rw [← h]; rfl
theorem FC_eq {M N : Nat} (h : M ≤ N) (hn : ∀ n, M ≤ n → n < N → ¬ isF mv f0 n) : FC mv f0 N = FC mv f0 M := by
  induction N with
  | zero => obtain rfl : M = 0 := by omega
            rfl
  | succ N ih =>
    rcases Nat.lt_or_eq_of_le h with h | rfl
    · rw [FC_succ, if_neg (hn N (by omega) (by omega)), List.append_nil]
      exact ih (by omega) fun n h1 h2 => hn n h1 (by omega)
    · rfl
/-- how far the line is laid when k rows are told -/
def BB (k : Nat) : Nat := match (CC mv f0)[k]? with | some c => 2 * c | none => 65536
theorem C_zero : (CC mv f0)[0]? = some 1 := by
  have h := FC_pre mv f0 (show 2 ≤ 65536 by decide)
  rw [FC_two] at h
  obtain ⟨r, hr⟩ := h
  rw [← hr]; rfl
theorem FC_BB_zero : FC mv f0 (BB mv f0 0) = [1] := by
  unfold BB
  rw [C_zero]
  exact FC_two mv f0
theorem BB_none {k : Nat} (h : (CC mv f0).length ≤ k) : FC mv f0 (BB mv f0 k) = CC mv f0 := by
  unfold BB
  rw [List.getElem?_eq_none h]; rfl
variable (hm : ∀ k, mv k < 16) (h0 : f0 < 16)
include hm h0
theorem CC_lt {k c : Nat} (h : (CC mv f0)[k]? = some c) : 1 ≤ c ∧ c < 65536 ∧ isF mv f0 c := by
  have := List.mem_of_getElem? h
  have := (mem_FC mv f0).mp this
  exact ⟨this.2.1, this.1, this.2⟩
theorem pre_any {M : Nat} : ∃ r, FC mv f0 M ++ r = CC mv f0 := by
  rcases Nat.le_total M 65536 with h | h
  · exact FC_pre mv f0 h
  · exact ⟨[], by rw [List.append_nil]; exact FC_top mv f0 hm h0 h⟩
theorem FC_at {M k c : Nat} (h : (CC mv f0)[k]? = some c) (hc : c < M) : (FC mv f0 M)[k]? = some c := by
  obtain ⟨r, hr⟩ := pre_any mv f0 hm h0 (M := M)
  have hcc := CC_lt mv f0 hm h0 h
  have hmem : c ∈ FC mv f0 M := (mem_FC mv f0).mpr ⟨hc, hcc.2.2⟩
  obtain ⟨i, hi, e⟩ := List.mem_iff_getElem.mp hmem
  have e2 : (CC mv f0)[i]? = some c := by rw [← hr, List.getElem?_append_left hi, List.getElem?_eq_getElem hi, e]
  have hik : i = k := by
    have hb1 := (List.getElem?_eq_some_iff.mp e2)
    have hb2 := (List.getElem?_eq_some_iff.mp h)
    obtain ⟨b1, q1⟩ := hb1
    obtain ⟨b2, q2⟩ := hb2
    rcases Nat.lt_trichotomy i k with hlt | rfl | hlt
    · have := List.pairwise_iff_getElem.mp (CC_sorted mv f0) i k b1 b2 hlt
      omega
    · rfl
    · have := List.pairwise_iff_getElem.mp (CC_sorted mv f0) k i b2 b1 hlt
      omega
  subst hik
  rw [List.getElem?_eq_getElem hi, e]
theorem BB_at {k c : Nat} (h : (CC mv f0)[k]? = some c) : (FC mv f0 (BB mv f0 k))[k]? = some c := by
  have := CC_lt mv f0 hm h0 h
  refine FC_at mv f0 hm h0 h ?_
  unfold BB; rw [h]
  show c < 2 * c
  omega
theorem BB_len {k : Nat} (h : (FC mv f0 (BB mv f0 k)).length ≤ k) : (CC mv f0).length ≤ k := by
  apply Classical.byContradiction
  intro hn
  have := BB_at mv f0 hm h0 (List.getElem?_eq_getElem (Nat.lt_of_not_le hn))
  have := (List.getElem?_eq_some_iff.mp this).1
  omega
theorem BB_next {k c : Nat} (h : (CC mv f0)[k]? = some c) : FC mv f0 (2 * c + 2) = FC mv f0 (BB mv f0 (k + 1)) := by
  have hc := CC_lt mv f0 hm h0 h
  have none : ∀ n, 2 * c + 2 ≤ n → isF mv f0 n → ∃ c', (CC mv f0)[k + 1]? = some c' ∧ 2 * c' ≤ n := by
    intro n hn hf
    have hh := isF_half mv f0 (by omega) hf
    have hmem : n / 2 ∈ CC mv f0 := (mem_CC mv f0 hm h0).mpr hh
    obtain ⟨i, hi, e⟩ := List.mem_iff_getElem.mp hmem
    obtain ⟨hk, ek⟩ := List.getElem?_eq_some_iff.mp h
    have hki : k < i := by
      apply Classical.byContradiction
      intro hlt
      rcases Nat.lt_or_eq_of_le (Nat.le_of_not_lt hlt) with h1 | h1
      · have := List.pairwise_iff_getElem.mp (CC_sorted mv f0) i k hi hk h1
        omega
      · subst h1; omega
    have hk1 : k + 1 < (CC mv f0).length := by omega
    refine ⟨_, List.getElem?_eq_getElem hk1, ?_⟩
    rcases Nat.lt_or_eq_of_le (show k + 1 ≤ i by omega) with h1 | h1
    · have := List.pairwise_iff_getElem.mp (CC_sorted mv f0) (k + 1) i hk1 hi h1
      omega
    · subst h1; omega
  cases h1 : (CC mv f0)[k + 1]? with
  | none =>
    have hB : BB mv f0 (k + 1) = 65536 := by unfold BB; rw [h1]
    rw [hB]
    have nn : ∀ n, 2 * c + 2 ≤ n → ¬ isF mv f0 n := fun n hn hf => by
      obtain ⟨c', e, _⟩ := none n hn hf
      rw [h1] at e; cases e
    rcases Nat.le_total (2 * c + 2) 65536 with hle | hle
    · exact (FC_eq mv f0 hle fun n a _ => nn n a).symm
    · exact FC_top mv f0 hm h0 hle
  | some c' =>
    have hB : BB mv f0 (k + 1) = 2 * c' := by unfold BB; rw [h1]
    rw [hB]
    have hcc : c < c' := by
      obtain ⟨b1, q1⟩ := List.getElem?_eq_some_iff.mp h
      obtain ⟨b2, q2⟩ := List.getElem?_eq_some_iff.mp h1
      have := List.pairwise_iff_getElem.mp (CC_sorted mv f0) k (k + 1) b1 b2 (by omega)
      omega
    refine (FC_eq mv f0 (by omega) fun n a b hf => ?_).symm
    obtain ⟨c'', e, h2⟩ := none n a hf
    rw [h1] at e; cases e
    omega
/-- the line so far -/
def LL (M : Nat) : List Nat := (FC mv f0 M).map (R mv f0)
omit hm h0 in
theorem mem_LL {M : Nat} (h1 : 1 ≤ M) : R mv f0 M ∈ LL mv f0 M ↔ ¬ isF mv f0 M := by
  unfold LL
  rw [List.mem_map]
  constructor
  · rintro ⟨m, hm, e⟩ hf
    have := (mem_FC mv f0).mp hm
    exact hf.2 m this.1 this.2.1 e
  · intro hf
    obtain ⟨m, k1, k2, k3⟩ := least mv f0 M h1
    have : m ≠ M := fun e => hf (e ▸ k2)
    exact ⟨m, (mem_FC mv f0).mpr ⟨by omega, k2⟩, k3⟩
omit hm h0 in
theorem LL_succ (M : Nat) : LL mv f0 (M + 1) = LL mv f0 M ++ if isF mv f0 M then [R mv f0 M] else [] := by
  unfold LL
  rw [FC_succ, List.map_append]
  split <;> rfl
omit hm h0 in
theorem mem_LL1 {M : Nat} (h1 : 1 ≤ M) : R mv f0 M ∈ LL mv f0 (M + 1) := by
  rw [LL_succ]
  by_cases h : isF mv f0 M
  · rw [if_pos h]; exact List.mem_append_right _ (.head _)
  · exact List.mem_append_left _ ((mem_LL mv f0 h1).mpr h)
omit hm h0 in
theorem LL_nodup (M : Nat) : (LL mv f0 M).Nodup := FC_nodup mv f0 M
theorem LL_len (M : Nat) : (LL mv f0 M).length ≤ 16 := by unfold LL; rw [List.length_map]; exact FC_len mv f0 hm h0 M
/-- a set's place in the order -/
def pos (t : Nat) : Nat := (DD mv f0).idxOf t
theorem LL_pos {M t : Nat} (h : t ∈ LL mv f0 M) : (LL mv f0 M).idxOf t = pos mv f0 t := by
  obtain ⟨r, hr⟩ := pre_any mv f0 hm h0 (M := M)
  unfold pos DD
  rw [← hr, List.map_append]
  rw [List.idxOf_append, if_pos (show t ∈ (FC mv f0 M).map (R mv f0) from h)]
  rfl
omit hm h0 in
theorem DD_nodup : (DD mv f0).Nodup := FC_nodup mv f0 _
theorem mem_DD (n : Nat) (h : 1 ≤ n) : R mv f0 n ∈ DD mv f0 := by
  obtain ⟨m, k1, k2, k3⟩ := least mv f0 n h
  exact List.mem_map.mpr ⟨m, (mem_CC mv f0 hm h0).mpr k2, k3⟩
theorem DD_lt : ∀ t ∈ DD mv f0, t < 16 := fun t ht => by
  obtain ⟨n, -, rfl⟩ := List.mem_map.mp ht
  exact R_lt mv f0 hm h0 n
theorem DD_len : (DD mv f0).length ≤ 16 := LL_len mv f0 hm h0 _
omit hm h0 in
theorem pos_get {t : Nat} (h : t ∈ DD mv f0) : (DD mv f0)[pos mv f0 t]? = some t := by
  unfold pos
  rw [List.getElem?_eq_getElem (List.idxOf_lt_length_of_mem h), List.getElem_idxOf]
omit hm h0 in
theorem pos_first {t m : Nat} (hlt : m < pos mv f0 t) : (DD mv f0)[m]? ≠ some t := fun e => by
  unfold pos at hlt
  obtain ⟨hb, e⟩ := List.getElem?_eq_some_iff.mp e
  have := List.not_of_lt_findIdx hlt
  simp [e] at this
end
/-! the book of least words, by relaxing -/
def nput (es : List (Nat × Nat)) (t c : Nat) : List (Nat × Nat) := if es.any (fun p => p.1 = t) then es.map (fun p => if p.1 = t then (p.1, c) else p) else es ++ [(t, c)]
def meas (es : List (Nat × Nat)) : Nat := (16 - es.length) * 131072 + (es.map (·.2)).sum
theorem key_one : ∀ {es : List (Nat × Nat)}, (es.map (·.1)).Nodup → ∀ {t c c' : Nat}, (t, c) ∈ es → (t, c') ∈ es → c = c'
  | p :: es, hn, t, c, c', h, h' => by
    rw [List.map_cons, List.nodup_cons] at hn
    rcases List.mem_cons.mp h with e1 | h1 <;> rcases List.mem_cons.mp h' with e2 | h2
    · rw [← e1] at e2; injection e2 with _ e2; exact e2.symm
    · exact absurd (show p.1 ∈ es.map (·.1) from List.mem_map.mpr ⟨(t, c'), h2, by rw [← e1]⟩) hn.1
    · exact absurd (show p.1 ∈ es.map (·.1) from List.mem_map.mpr ⟨(t, c), h1, by rw [← e2]⟩) hn.1
    · exact key_one hn.2 h1 h2
theorem over_keys (es : List (Nat × Nat)) (t c : Nat) : (es.map (fun p => if p.1 = t then (p.1, c) else p)).map (·.1) = es.map (·.1) := by
  rw [List.map_map]
  refine List.map_congr_left fun p _ => ?_
  show (if p.1 = t then (p.1, c) else p).1 = p.1
  split <;> rfl
theorem over_sum : ∀ {es : List (Nat × Nat)} {t c c' : Nat}, (es.map (·.1)).Nodup → (t, c') ∈ es → ((es.map (fun p => if p.1 = t then (p.1, c) else p)).map (·.2)).sum + c' = (es.map (·.2)).sum + c
  | p :: es, t, c, c', hn, h => by
    rw [List.map_cons, List.nodup_cons] at hn
    rcases List.mem_cons.mp h with rfl | h
    · have e : es.map (fun p => if p.1 = t then (p.1, c) else p) = es := by
        rw [List.map_congr_left (g := id), List.map_id]
        intro p hp
        rw [if_neg]; rfl
        rintro rfl
        exact hn.1 (List.mem_map.mpr ⟨_, hp, rfl⟩)
      simp only [List.map_cons, if_pos, List.sum_cons, e]
      omega
    · have hne : p.1 ≠ t := by rintro rfl; exact hn.1 (List.mem_map.mpr ⟨_, h, rfl⟩)
      have := over_sum (c := c) hn.2 h
      simp only [List.map_cons, if_neg hne, List.sum_cons]
      omega
theorem any_key {es : List (Nat × Nat)} {t : Nat} : (es.any fun p => p.1 = t) = true ↔ ∃ c, (t, c) ∈ es := by
  rw [List.any_eq_true]
  constructor
  · rintro ⟨p, hp, e⟩
    have e : p.1 = t := by simpa using e
    exact ⟨p.2, by rw [← e]; exact hp⟩
  · rintro ⟨c, h⟩
    exact ⟨_, h, by simp⟩
section
variable (mv : Nat → Nat) (f0 : Nat)
structure BI (es : List (Nat × Nat)) : Prop where
  nd : (es.map (·.1)).Nodup
  one : (f0, 1) ∈ es
  ok : ∀ p ∈ es, 1 ≤ p.2 ∧ R mv f0 p.2 = p.1
  small : ∀ p ∈ es, p.2 < 2 ^ es.length
theorem BI_init : BI mv f0 [(f0, 1)] := ⟨by simp, .head _, fun p hp => by rw [List.mem_singleton.mp hp]; exact ⟨Nat.le_refl _, R_one mv f0⟩, fun p hp => by rw [List.mem_singleton.mp hp]; show 1 < 2 ^ 1; decide⟩
variable (hm : ∀ k, mv k < 16) (h0 : f0 < 16)
include hm h0
theorem BI.len {es : List (Nat × Nat)} (h : BI mv f0 es) : es.length ≤ 16 := by
  have := nodup_small 16 (es.map (·.1)) h.nd fun x hx => by
    obtain ⟨p, hp, rfl⟩ := List.mem_map.mp hx
    rw [← (h.ok p hp).2]
    exact R_lt mv f0 hm h0 _
  rwa [List.length_map] at this
theorem BI.key_lt {es : List (Nat × Nat)} (h : BI mv f0 es) : ∀ p ∈ es, p.1 < 16 := fun p hp => by
  rw [← (h.ok p hp).2]; exact R_lt mv f0 hm h0 _
theorem BI.code_lt {es : List (Nat × Nat)} (h : BI mv f0 es) : ∀ p ∈ es, p.2 < 65536 := fun p hp =>
  Nat.lt_of_lt_of_le (h.small p hp) (Nat.pow_le_pow_right (by decide) (h.len mv f0 hm h0))
theorem BI.step {es : List (Nat × Nat)} (h : BI mv f0 es) {s c b : Nat} (hs : (s, c) ∈ es) (hb : b < 2) (hi : ∀ c', (img mv s b, c') ∈ es → 2 * c + b < c') :
    BI mv f0 (nput es (img mv s b) (2 * c + b)) ∧ meas (nput es (img mv s b) (2 * c + b)) < meas es := by
  have hc := h.ok _ hs
  have hl := h.len mv f0 hm h0
  have hsm := h.small _ hs
  dsimp only at hc hsm
  have hR : R mv f0 (2 * c + b) = img mv s b := by rw [R_two mv f0 c b hc.1 hb, hc.2]
  unfold nput
  by_cases ha : (es.any fun p => p.1 = img mv s b) = true
  · rw [if_pos ha]
    obtain ⟨c', hc'⟩ := any_key.mp ha
    have hlt := hi c' hc'
    have hsum := over_sum (c := 2 * c + b) h.nd hc'
    refine ⟨⟨by rw [over_keys]; exact h.nd, ?_, ?_, ?_⟩, ?_⟩
    · refine List.mem_map.mpr ⟨_, h.one, ?_⟩
      rw [if_neg]
      rintro e
      dsimp only at e
      rw [← e] at hc'
      have := key_one h.nd h.one hc'
      omega
    · intro p hp
      obtain ⟨q, hq, rfl⟩ := List.mem_map.mp hp
      by_cases e : q.1 = img mv s b
      · rw [if_pos e]; exact ⟨by dsimp only; omega, by dsimp only; rw [hR, e]⟩
      · rw [if_neg e]; exact h.ok q hq
    · intro p hp
      rw [List.length_map]
      obtain ⟨q, hq, rfl⟩ := List.mem_map.mp hp
      by_cases e : q.1 = img mv s b
      · rw [if_pos e]
        have := h.small _ hc'
        dsimp only at this ⊢
        omega
      · rw [if_neg e]; exact h.small q hq
    · unfold meas
      rw [List.length_map]
      omega
  · rw [if_neg ha]
    have hnew : ∀ c', (img mv s b, c') ∉ es := fun c' hc' => ha (any_key.mpr ⟨c', hc'⟩)
    have hB : BI mv f0 (es ++ [(img mv s b, 2 * c + b)]) := by
      refine ⟨?_, List.mem_append_left _ h.one, ?_, ?_⟩
      · rw [List.map_append, List.nodup_append]
        refine ⟨h.nd, by simp, fun x hx y hy e => ?_⟩
        obtain ⟨p, hp, rfl⟩ := List.mem_map.mp hx
        have hy : y = img mv s b := by simpa using hy
        rw [hy] at e
        exact hnew p.2 (by rw [← e]; exact hp)
      · intro p hp
        rcases List.mem_append.mp hp with hp | hp
        · exact h.ok p hp
        · rw [List.mem_singleton.mp hp]; exact ⟨by dsimp only; omega, hR⟩
      · intro p hp
        rw [List.length_append, List.length_singleton]
        have := Nat.pow_succ 2 es.length
        rcases List.mem_append.mp hp with hp | hp
        · have := h.small p hp; omega
        · rw [List.mem_singleton.mp hp]; dsimp only; omega
    refine ⟨hB, ?_⟩
    have hl2 := hB.len mv f0 hm h0
    rw [List.length_append, List.length_singleton] at hl2
    have hcl := hB.code_lt mv f0 hm h0 (img mv s b, 2 * c + b) (List.mem_append_right _ (.head _))
    dsimp only at hcl
    unfold meas
    rw [List.length_append, List.length_singleton, List.map_append, List.sum_append]
    simp only [List.map_cons, List.map_nil, List.sum_cons, List.sum_nil]
    have : (16 - es.length) * 131072 = (16 - (es.length + 1)) * 131072 + 131072 := by
      rw [show 16 - es.length = (16 - (es.length + 1)) + 1 by omega, Nat.succ_mul]
    omega
/-- nothing is left to relax at s and b -/
def clo (es : List (Nat × Nat)) (s b : Nat) : Prop := ∀ c, (s, c) ∈ es → ∃ c', (img mv s b, c') ∈ es ∧ c' ≤ 2 * c + b
omit hm h0 in
theorem cover {es : List (Nat × Nat)} (h : BI mv f0 es) (hc : ∀ s b, (∃ c, (s, c) ∈ es) → b < 2 → clo mv es s b) (n : Nat) (hn : 1 ≤ n) : ∃ c, c ≤ n ∧ (R mv f0 n, c) ∈ es := by
  induction n using Nat.strongRecOn with
  | ind n ih =>
    rcases Nat.lt_or_ge n 2 with h2 | h2
    · obtain rfl : n = 1 := by omega
      exact ⟨1, Nat.le_refl _, by rw [R_one]; exact h.one⟩
    · obtain ⟨c, h1, hm⟩ := ih (n / 2) (by omega) (by omega)
      obtain ⟨c', k1, k2⟩ := hc (R mv f0 (n / 2)) (n % 2) ⟨c, hm⟩ (by omega) c hm
      exact ⟨c', by omega, by rw [R_big mv f0 h2]; exact k1⟩
omit hm h0 in
theorem best_iff {es : List (Nat × Nat)} (h : BI mv f0 es) (hc : ∀ s b, (∃ c, (s, c) ∈ es) → b < 2 → clo mv es s b) (s c : Nat) : (s, c) ∈ es ↔ isF mv f0 c ∧ R mv f0 c = s := by
  constructor
  · intro hs
    have ho := h.ok _ hs
    dsimp only at ho
    refine ⟨⟨ho.1, fun m hlt h1 e => ?_⟩, ho.2⟩
    obtain ⟨c'', k1, k2⟩ := cover mv f0 h hc m h1
    rw [e, ho.2] at k2
    have := key_one h.nd hs k2
    omega
  · rintro ⟨hf, rfl⟩
    obtain ⟨c', k1, k2⟩ := cover mv f0 h hc c hf.1
    have ho := h.ok _ k2
    dsimp only at ho
    rcases Nat.lt_or_eq_of_le k1 with hlt | rfl
    · exact absurd ho.2 (hf.2 c' hlt ho.1)
    · exact k2
end
theorem sorted_ext : ∀ {a b : List Nat}, a.Pairwise (· < ·) → b.Pairwise (· < ·) → (∀ x, x ∈ a ↔ x ∈ b) → a = b
  | [], [], _, _, _ => rfl
  | [], y :: b, _, _, h => absurd ((h y).mpr (.head _)) (fun h => nomatch h)
  | x :: a, [], _, _, h => absurd ((h x).mp (.head _)) (fun h => nomatch h)
  | x :: a, y :: b, ha, hb, h => by
    rw [List.pairwise_cons] at ha hb
    have e : x = y := by
      rcases List.mem_cons.mp ((h x).mp (.head _)) with e | e
      · exact e
      · rcases List.mem_cons.mp ((h y).mpr (.head _)) with e' | e'
        · exact e'.symm
        · have := ha.1 y e'; have := hb.1 x e; omega
    subst e
    rw [sorted_ext ha.2 hb.2 fun z => ?_]
    have := h z
    rw [List.mem_cons, List.mem_cons] at this
    constructor
    · intro hz
      rcases this.mp (.inr hz) with rfl | hz'
      · have := ha.1 z hz; omega
      · exact hz'
    · intro hz
      rcases this.mpr (.inr hz) with rfl | hz'
      · have := hb.1 z hz; omega
      · exact hz'
theorem log_lt {c d : Nat} (hc : 1 ≤ c) (hd : 1 ≤ d) : (c.log2 < d.log2 ∨ (c.log2 = d.log2 ∧ c - 2 ^ c.log2 < d - 2 ^ d.log2)) ↔ c < d := by
  have a1 := Nat.log2_self_le (show c ≠ 0 by omega)
  have a2 := Nat.lt_log2_self (n := c)
  have b1 := Nat.log2_self_le (show d ≠ 0 by omega)
  have b2 := Nat.lt_log2_self (n := d)
  constructor
  · rintro (h | ⟨h1, h2⟩)
    · have := Nat.pow_le_pow_right (show 0 < 2 by decide) (show c.log2 + 1 ≤ d.log2 from h)
      omega
    · rw [h1] at a1 a2 h2; omega
  · intro h
    rcases Nat.lt_trichotomy c.log2 d.log2 with h1 | h1 | h1
    · exact .inl h1
    · refine .inr ⟨h1, ?_⟩
      rw [h1] at a1 ⊢; omega
    · have := Nat.pow_le_pow_right (show 0 < 2 by decide) (show d.log2 + 1 ≤ c.log2 from h1)
      omega
theorem log_two {c b : Nat} (hc : 1 ≤ c) (hb : b < 2) : (2 * c + b).log2 = c.log2 + 1 ∧ 2 * c + b - 2 ^ (c.log2 + 1) = 2 * (c - 2 ^ c.log2) + b := by
  have a1 := Nat.log2_self_le (show c ≠ 0 by omega)
  have a2 := Nat.lt_log2_self (n := c)
  have e := Nat.pow_succ 2 c.log2
  have e2 := Nat.pow_succ 2 (c.log2 + 1)
  refine ⟨?_, by omega⟩
  have h1 : c.log2 + 1 ≤ (2 * c + b).log2 := (Nat.le_log2 (by omega)).mpr (by omega)
  have h2 : (2 * c + b).log2 < c.log2 + 1 + 1 := (Nat.log2_lt (by omega)).mpr (by omega)
  omega
theorem mem_dig {s p : Nat} : p ∈ dig s ↔ p < 4 ∧ s.testBit p = true := by simp [dig]
theorem dig_sorted (s : Nat) : (dig s).Pairwise (· < ·) := List.Pairwise.filter _ List.pairwise_lt_range
theorem dig_nodup (s : Nat) : (dig s).Nodup := (dig_sorted s).imp fun h => Nat.ne_of_lt h
theorem dig_len (s : Nat) : (dig s).length ≤ 4 := by
  have := List.length_filter_le (fun p => s.testBit p) (List.range 4)
  rwa [List.length_range] at this
def addN (told : List Nat) (o : Nat) : List Nat := if o ∈ told then told else told ++ [o]
def nxt (nexts : Nat → List Nat) (here : List Nat) (b : Nat) : List Nat := here.foldl (fun told p => (nexts (2 * p + b)).foldl addN told) []
theorem add_mem : ∀ (l told : List Nat), told.Nodup → (l.foldl addN told).Nodup ∧ ∀ o, o ∈ l.foldl addN told ↔ o ∈ told ∨ o ∈ l
  | [], told, h => ⟨h, fun o => by simp⟩
  | x :: l, told, h => by
    rw [List.foldl_cons]
    have hx : (addN told x).Nodup ∧ ∀ o, o ∈ addN told x ↔ o ∈ told ∨ o = x := by
      unfold addN
      split
      · rename_i hm
        refine ⟨h, fun o => ⟨.inl, fun k => ?_⟩⟩
        rcases k with k | rfl
        · exact k
        · exact hm
      · rename_i hm
        refine ⟨?_, fun o => by simp⟩
        rw [List.nodup_append]
        exact ⟨h, by simp, fun a ha b hb e => hm (by rw [List.mem_singleton.mp hb] at e; rwa [← e])⟩
    obtain ⟨h1, h2⟩ := add_mem l _ hx.1
    refine ⟨h1, fun o => ?_⟩
    rw [h2, hx.2, List.mem_cons]
    constructor
    · rintro ((h | h) | h)
      · exact .inl h
      · exact .inr (.inl h)
      · exact .inr (.inr h)
    · rintro (h | h | h)
      · exact .inl (.inl h)
      · exact .inl (.inr h)
      · exact .inr h
theorem nxt_mem' (nexts : Nat → List Nat) (b : Nat) : ∀ (here told : List Nat), told.Nodup → (here.foldl (fun told p => (nexts (2 * p + b)).foldl addN told) told).Nodup ∧ ∀ o, o ∈ here.foldl (fun told p => (nexts (2 * p + b)).foldl addN told) told ↔ o ∈ told ∨ ∃ p ∈ here, o ∈ nexts (2 * p + b)
  | [], told, h => ⟨h, fun o => by simp⟩
  | p :: here, told, h => by
    obtain ⟨a1, a2⟩ := add_mem (nexts (2 * p + b)) told h
    obtain ⟨b1, b2⟩ := nxt_mem' nexts b here _ a1
    rw [List.foldl_cons]
    refine ⟨b1, fun o => ?_⟩
    rw [b2, a2]
    constructor
    · rintro ((h | h) | ⟨q, hq, h⟩)
      · exact .inl h
      · exact .inr ⟨p, .head _, h⟩
      · exact .inr ⟨q, .tail _ hq, h⟩
    · rintro (h | ⟨q, hq, h⟩)
      · exact .inl (.inl h)
      · rcases List.mem_cons.mp hq with rfl | hq
        · exact .inl (.inr h)
        · exact .inr ⟨q, hq, h⟩
theorem nxt_mem (nexts : Nat → List Nat) (b : Nat) (here : List Nat) : (nxt nexts here b).Nodup ∧ ∀ o, o ∈ nxt nexts here b ↔ ∃ p ∈ here, o ∈ nexts (2 * p + b) := by
  obtain ⟨h1, h2⟩ := nxt_mem' nexts b here [] List.nodup_nil
  exact ⟨h1, fun o => by rw [nxt, h2]; simp⟩
section
variable (mv : Nat → Nat) (f0 : Nat)
/-- the plain list of states that the word told by n leads to -/
def HH (n : Nat) : List Nat := if h : n ≤ 1 then dig f0 else nxt (fun k => dig (mv k)) (HH (n / 2)) (n % 2)
termination_by n
decreasing_by omega
theorem HH_one : HH mv f0 1 = dig f0 := by rw [HH, dif_pos (Nat.le_refl _)]
theorem HH_big {n : Nat} (h : 2 ≤ n) : HH mv f0 n = nxt (fun k => dig (mv k)) (HH mv f0 (n / 2)) (n % 2) := by rw [HH, dif_neg (by omega)]
theorem HH_ok (n : Nat) (hn : 1 ≤ n) : (HH mv f0 n).Nodup ∧ ∀ o, o ∈ HH mv f0 n ↔ o ∈ dig (R mv f0 n) := by
  induction n using Nat.strongRecOn with
  | ind n ih =>
    rcases Nat.lt_or_ge n 2 with h2 | h2
    · obtain rfl : n = 1 := by omega
      rw [HH_one, R_one]
      exact ⟨dig_nodup _, fun o => Iff.rfl⟩
    · obtain ⟨i1, i2⟩ := ih (n / 2) (by omega) (by omega)
      rw [HH_big mv f0 h2, R_big mv f0 h2]
      obtain ⟨k1, k2⟩ := nxt_mem (fun k => dig (mv k)) (n % 2) (HH mv f0 (n / 2))
      refine ⟨k1, fun o => ?_⟩
      rw [k2, mem_dig, img_bit, List.any_eq_true]
      constructor
      · rintro ⟨p, hp, ho⟩
        have := mem_dig.mp ho
        exact ⟨this.1, p, (i2 p).mp hp, this.2⟩
      · rintro ⟨h4, p, hp, ho⟩
        exact ⟨p, (i2 p).mpr hp, mem_dig.mpr ⟨h4, ho⟩⟩
theorem HH_lt (n : Nat) (hn : 1 ≤ n) : ∀ o ∈ HH mv f0 n, o < 4 := fun o ho => (mem_dig.mp ((HH_ok mv f0 n hn).2 o |>.mp ho)).1
theorem HH_len (n : Nat) (hn : 1 ≤ n) : (HH mv f0 n).length ≤ 4 := nodup_small 4 _ (HH_ok mv f0 n hn).1 (HH_lt mv f0 n hn)
/-- the word told by n -/
def WW (n : Nat) : List Nat := if h : n ≤ 1 then [] else WW (n / 2) ++ [n % 2]
termination_by n
decreasing_by omega
theorem WW_one : WW 1 = [] := by rw [WW, dif_pos (Nat.le_refl _)]
theorem WW_big {n : Nat} (h : 2 ≤ n) : WW n = WW (n / 2) ++ [n % 2] := by rw [WW, dif_neg (by omega)]
theorem WW_run (n : Nat) (hn : 1 ≤ n) : (WW n).foldl (img mv) f0 = R mv f0 n ∧ (∀ b ∈ WW n, b < 2) := by
  induction n using Nat.strongRecOn with
  | ind n ih =>
    rcases Nat.lt_or_ge n 2 with h2 | h2
    · obtain rfl : n = 1 := by omega
      rw [WW_one, R_one]
      exact ⟨rfl, fun b h => nomatch h⟩
    · obtain ⟨i1, i2⟩ := ih (n / 2) (by omega) (by omega)
      rw [WW_big h2, R_big mv f0 h2, List.foldl_append, i1]
      refine ⟨rfl, fun b hb => ?_⟩
      rcases List.mem_append.mp hb with hb | hb
      · exact i2 b hb
      · rw [List.mem_singleton.mp hb]; omega
theorem WW_len (n : Nat) : (WW n).length ≤ n := by
  induction n using Nat.strongRecOn with
  | ind n ih =>
    rcases Nat.lt_or_ge n 2 with h2 | h2
    · rw [WW, dif_pos (by omega)]; exact Nat.zero_le _
    · rw [WW_big h2, List.length_append, List.length_singleton]
      have := ih (n / 2) (by omega)
      omega
/-- any word leads to some set that R tells -/
theorem run_R : ∀ (l : List Nat), (∀ b ∈ l, b < 2) → ∀ m, 1 ≤ m → ∃ n, 1 ≤ n ∧ l.foldl (img mv) (R mv f0 m) = R mv f0 n
  | [], _, m, hm => ⟨m, hm, rfl⟩
  | b :: l, h, m, hm => by
    rw [List.foldl_cons, ← R_two mv f0 m b hm (h b (.head _))]
    exact run_R l (fun c hc => h c (.tail _ hc)) _ (by omega)
end
theorem sorted_extI : ∀ {a b : List Int}, a.Pairwise (· < ·) → b.Pairwise (· < ·) → (∀ x, x ∈ a ↔ x ∈ b) → a = b
  | [], [], _, _, _ => rfl
  | [], y :: b, _, _, h => absurd ((h y).mpr (.head _)) (fun h => nomatch h)
  | x :: a, [], _, _, h => absurd ((h x).mp (.head _)) (fun h => nomatch h)
  | x :: a, y :: b, ha, hb, h => by
    rw [List.pairwise_cons] at ha hb
    have e : x = y := by
      rcases List.mem_cons.mp ((h x).mp (.head _)) with e | e
      · exact e
      · rcases List.mem_cons.mp ((h y).mpr (.head _)) with e' | e'
        · exact e'.symm
        · have := ha.1 y e'; have := hb.1 x e; omega
    subst e
    rw [sorted_extI ha.2 hb.2 fun z => ?_]
    have := h z
    rw [List.mem_cons, List.mem_cons] at this
    constructor
    · intro hz
      rcases this.mp (.inr hz) with rfl | hz'
      · have := ha.1 z hz; omega
      · exact hz'
    · intro hz
      rcases this.mpr (.inr hz) with rfl | hz'
      · have := hb.1 z hz; omega
      · exact hz'
/-- the states sorted are the digits of the set -/
theorem sorted_dig (mv : Nat → Nat) (f0 n : Nat) (hn : 1 ≤ n) {ns : List Int} (hp : ns.Perm ((HH mv f0 n).map Int.ofNat)) (hs : ns.Pairwise (· ≤ ·)) : ns = (dig (R mv f0 n)).map Int.ofNat := by
  obtain ⟨h1, h2⟩ := HH_ok mv f0 n hn
  have hnd : ns.Nodup := hp.nodup_iff.mpr (by
    rw [List.nodup_iff_pairwise_ne, List.pairwise_map]
    exact h1.imp fun h e => h (Int.ofNat.inj e))
  refine sorted_extI ?_ ?_ fun x => ?_
  · have := hs.and hnd
    exact this.imp fun ⟨a, b⟩ => by omega
  · rw [List.pairwise_map]
    exact (dig_sorted _).imp fun h => Int.ofNat_lt.mpr h
  · rw [hp.mem_iff, List.mem_map, List.mem_map]
    constructor
    · rintro ⟨o, ho, e⟩; exact ⟨o, (h2 o).mp ho, e⟩
    · rintro ⟨o, ho, e⟩; exact ⟨o, (h2 o).mpr ho, e⟩
abbrev nI (k : Nat) : V := .int (k : Int)
abbrev nsV (l : List Nat) : V := .lst (l.map nI)
def ownL : List Nat := [6, 3, 5, 12, 9, 2, 10, 7]
structure Gs1 (G : Gl) (ar am ow ad at_ au al an aw : Addr) : Prop where
  nred : G.mg (Str.ofString "reduce") = some (.ref ar)
  red : RFn G ar am
  kred : Kp G (.ref ar)
  nown : G.mg (Str.ofString "_law_OWN") = some (.ref ow)
  own : ∀ W : Wd, (∀ a o, G.s0.heap.get? a = some o → W a = .froz o) → VR G.w W (.tup (ownL.map nI)) (.ref ow)
  ndig : G.mg (Str.ofString "_law_digits") = some (.ref ad)
  dig : Fn G ad 5 .none
  kdig : Kp G (.ref ad)
  ntab : G.mg (Str.ofString "_law_table") = some (.ref at_)
  tab : Fn G at_ 6 .none
  ktab : Kp G (.ref at_)
  nunf : G.mg (Str.ofString "_law_unfold") = some (.ref au)
  unf : Fn G au 7 .none
  kunf : Kp G (.ref au)
  nlea : G.mg (Str.ofString "_law_least_words") = some (.ref al)
  lea : Fn G al 8 .none
  klea : Kp G (.ref al)
  nnex : G.mg (Str.ofString "_law_next") = some (.ref an)
  nex : Fn G an 9 .none
  knex : Kp G (.ref an)
  nwal : G.mg (Str.ofString "_law_walk") = some (.ref aw)
  wal : Fn G aw 10 .none
  kwal : Kp G (.ref aw)
  nlen : G.mg (Str.ofString "len") = none
  nrange : G.mg (Str.ofString "range") = none
  nsum : G.mg (Str.ofString "sum") = none
  nsorted : G.mg (Str.ofString "sorted") = none
  niter : G.mg (Str.ofString "iter") = none
theorem c_len : bootBuiltins (Str.ofString "len") = some (.builtin "len") := by decide +kernel
theorem c_range : bootBuiltins (Str.ofString "range") = some (.type "range") := by decide +kernel
theorem c_sum : bootBuiltins (Str.ofString "sum") = some (.builtin "sum") := by decide +kernel
theorem c_sorted : bootBuiltins (Str.ofString "sorted") = some (.builtin "sorted") := by decide +kernel
theorem c_iter : bootBuiltins (Str.ofString "iter") = some (.builtin "iter") := by decide +kernel
theorem bit_at : ∀ s : Nat, s < 16 → ∀ p : Nat, p < 4 → (((s : Int).fdiv (2 ^ (p : Int).toNat)).fmod 2 == (1 : Int)) = s.testBit p := by decide
theorem bits_two : Builtin.Int.intBits 2 = 2 := by decide +kernel
def bitV (s : Nat) : V → Bool
  | .int i => s.testBit i.toNat
  | _ => false
theorem bits_dig (s : Nat) : (((List.range 4).map fun (k : Nat) => V.int (0 + (k : Int) * 1)).filter (bitV s)).map (fun v => v) = (dig s).map nI := by
  rw [List.map_id', List.filter_map]
  unfold dig
  have e : ((bitV s) ∘ fun (k : Nat) => V.int (0 + (k : Int) * 1)) = fun p => s.testBit p := by
    funext k
    show s.testBit (0 + (k : Int) * 1).toNat = _
    rw [show (0 + (k : Int) * 1).toNat = k by omega]
  rw [e]
  refine List.map_congr_left fun k _ => ?_
  show V.int _ = V.int _
  congr 1; omega
section
variable {G : Gl} {ar am ow ad at_ au al an aw : Addr} (H : Gs1 G ar am ow ad at_ au al an aw)
include H
theorem dig_spec (s : Nat) (hs : s < 16) (sto : List MO) : Calls G 1 (.ref ad) [nI s] sto fun v s' => v = nsV (dig s) ∧ s' = sto := by
  refine fn_calls H.dig [("number", nI s)] (fun nm kV doc pm an cd ct w W xs hx => ?_) (by rfl) ?_
  · obtain ⟨x, rfl, r⟩ := one_of hx
    exact ⟨_, .cons r .nil, rfl⟩
  · show Exs _ (_ :: _) _ _
    repeat walk_at "ev"
    refine Ev_lc ⟨rfl, rfl, rfl, rfl, rfl⟩ (fun _ _ => rfl) ?_
    repeat walk_at "ev"
    refine Ev_boot H.nrange c_range (by rfl) ⟨_, rfl, Kp_type, ?_⟩
    repeat walk_at "ev"
    refine Call_range1 ?_
    refine comp_filter [("number", nI s)] (bitV s) (fun v => v) (Src_up (n := 4) (by decide) (by decide) (by decide)) rfl (by decide) (cap_cons rfl rfl cap_nil) (fun v hv => ?_) ?_
    · obtain ⟨k, hk, rfl⟩ := List.mem_map.mp hv
      have hk := List.mem_range.mp hk
      rw [show (0 : Int) + (k : Int) * 1 = (k : Int) by omega]
      repeat walk_at "ev"
      refine Bin_pow (by omega) (by rw [bits_two]; omega) ?_
      have hp2 : (2 : Int) ^ (k : Int).toNat ≠ 0 ∧ ((2 : Int) ^ (k : Int).toNat).natAbs < 2 ^ 64 := by
        rcases (by omega : k = 0 ∨ k = 1 ∨ k = 2 ∨ k = 3) with rfl | rfl | rfl | rfl <;> decide
      refine Bin_div hp2.1 hp2.2 ?_
      repeat walk_at "ev"
      refine ⟨bit_at s hs k hk, rfl, .cons rfl .nil, fun _ => ?_⟩
      repeat walk_at "ev"
      exact ⟨rfl, rfl, .cons rfl .nil⟩
    · rw [bits_dig]
      exact ⟨rfl, rfl⟩
end
theorem left64 {a b : Int} (h1 : -(2 ^ 64) < a) (h2 : a < 2 ^ 64) : IntMulOk a b := IntMulOk.of_left (PySem.intBits_le_64 h1 h2)
theorem v_is1 (a : Int) (k : Nat) (n : Nat) {v : V} (hv : ((List.range n).map fun (k : Nat) => V.int (a + (k : Int) * 1))[k]? = some v) : k < n ∧ v = .int (a + k) := by
  have hk : k < n := by
    have := (List.getElem?_eq_some_iff.mp hv).1
    simpa using this
  refine ⟨hk, ?_⟩
  rw [List.getElem?_map, List.getElem?_range hk] at hv
  simp only [Option.map_some, Option.some.injEq] at hv
  rw [← hv, Int.mul_one]
theorem bor : ∀ a : Nat, a < 16 → ∀ b : Nat, b < 16 → Builtin.bitOr (a : Int) (b : Int) = ((a ||| b : Nat) : Int) := by decide +kernel
def pairV (mv : Nat → Nat) (s : Nat) : V := .lst [nI (img mv s 0), nI (img mv s 1)]
def tabV (mv : Nat → Nat) : V := .lst ((List.range 16).map (pairV mv))
def movV (mv : Nat → Nat) : V := .lst ((List.range 8).map fun k => nI (mv k))
/-- the first m digits of s told -/
def part (mv : Nat → Nat) (s m b : Nat) : Nat := ((dig s).take m).foldl (fun a p => a ||| mv (2 * p + b)) 0
theorem part_lt {mv : Nat → Nat} (hm : ∀ k, mv k < 16) (s m b : Nat) : part mv s m b < 16 := by
  have key : ∀ (l : List Nat) (a : Nat), a < 16 → l.foldl (fun a p => a ||| mv (2 * p + b)) a < 16 := by
    intro l
    induction l with
    | nil => intro a h; exact h
    | cons p l ih => intro a h; exact ih _ (Nat.or_lt_two_pow (n := 4) h (hm _))
  exact key _ _ (by decide)
theorem part_succ {mv : Nat → Nat} {s m p : Nat} (b : Nat) (h : (dig s)[m]? = some p) : part mv s (m + 1) b = part mv s m b ||| mv (2 * p + b) := by
  unfold part
  rw [List.take_add_one, h, List.foldl_append]; rfl
theorem part_all (mv : Nat → Nat) (s b : Nat) : part mv s (dig s).length b = img mv s b := by
  unfold part img
  rw [List.take_length]
theorem mov_at {mv : Nat → Nat} {k : Nat} (h : k < 8) : itemAt ((List.range 8).map fun k => nI (mv k)) (k : Int) = some (nI (mv k)) := by
  unfold itemAt
  rw [if_pos (by omega), Int.toNat_natCast, List.getElem?_map, List.getElem?_range h]; rfl
def tst (mv : Nat → Nat) (sto : List MO) (k : Nat) : List MO := sto ++ MO.list ((List.range k).map fun i => V.ref (sto.length + 1 + i)) :: (List.range k).map fun s => MO.list [nI (img mv s 0), nI (img mv s 1)]
theorem tst_len (mv : Nat → Nat) (sto : List MO) (k : Nat) : (tst mv sto k).length = sto.length + 1 + k := by unfold tst; simp; omega
theorem tst_at (mv : Nat → Nat) (sto : List MO) (k : Nat) : (tst mv sto k)[sto.length]? = some (.list ((List.range k).map fun i => V.ref (sto.length + 1 + i))) := by
  unfold tst
  rw [List.getElem?_append_right (Nat.le_refl _), Nat.sub_self]; rfl
theorem tst_pair (mv : Nat → Nat) (sto : List MO) (k i : Nat) (h : i < k) : (tst mv sto k)[sto.length + 1 + i]? = some (.list [nI (img mv i 0), nI (img mv i 1)]) := by
  unfold tst
  rw [List.getElem?_append_right (by omega), show sto.length + 1 + i - sto.length = i + 1 by omega, List.getElem?_cons_succ, List.getElem?_map, List.getElem?_range h]; rfl
theorem tst_next (mv : Nat → Nat) (sto : List MO) (k : Nat) : (tst mv sto k ++ [MO.list [nI (img mv k 0), nI (img mv k 1)]]).set sto.length (.list (((List.range k).map fun i => V.ref (sto.length + 1 + i)) ++ [.ref (tst mv sto k).length])) = tst mv sto (k + 1) := by
  rw [tst_len]
  unfold tst
  rw [List.range_succ]
  simp
theorem trim_refs {S : List MO} {k : Nat} : ∀ (is : List Nat) (f : Nat → V) (g : Nat → List V), (∀ i ∈ is, k ≤ k + 1 + i ∧ S[k + 1 + i]? = some (.list (g i)) ∧ los k (g i) = true ∧ f i = .lst (g i)) → Ress S k (is.map fun i => V.ref (k + 1 + i)) (is.map f)
  | [], _, _, _ => .nil
  | i :: is, f, g, h => by
    obtain ⟨h1, h2, h3, h4⟩ := h i (.head _)
    rw [List.map_cons, List.map_cons, h4]
    exact .cons (.new h1 h2 (Ress.lo _ h3)) (trim_refs is f g fun j hj => h j (.tail _ hj))
section
variable {G : Gl} {ar am ow ad at_ au al an aw : Addr} (H : Gs1 G ar am ow ad at_ au al an aw)
include H
theorem tab_spec (mv : Nat → Nat) (hm : ∀ k, mv k < 16) (sto : List MO) (hs : Clo sto) : Calls G 2 (.ref at_) [movV mv] sto fun v s' => v = tabV mv ∧ s' = sto := by
  refine Calls_trim (Q' := fun v s => v = .ref sto.length ∧ s = tst mv sto 16) ?_ fun v s h => ⟨_, sto, ?_, rfl, rfl⟩
  · refine fn_calls H.tab [("moves", movV mv)] (fun nm kV doc pm an cd ct w W xs hx => ?_) (by rfl) ?_
    · obtain ⟨x, rfl, r⟩ := one_of hx
      exact ⟨_, .cons r .nil, rfl⟩
    · show Exs _ (_ :: _) _ _
      repeat walk_at "ev"
      refine Ev_lstC (by decide) ?_
      repeat walk_at "ev"
      refine Ex_for (fun k σ => k ≤ 16 ∧ ∃ l', σ = ⟨l', tst mv sto k⟩ ∧ Sub [("table", .ref sto.length), ("moves", movV mv)] l') (fun _ _ => rfl) ?_
      repeat walk_at "ev"
      refine Ev_boot H.nrange c_range (by rfl) ⟨_, rfl, Kp_type, ?_⟩
      repeat walk_at "ev"
      refine Call_range1 ?_
      refine ⟨_, Src_up (n := 16) (by decide) (by decide) (by decide), ⟨by decide, [("table", .ref sto.length), ("moves", movV mv)], by unfold tst; simp, .cons rfl (.cons rfl .nil)⟩, ?_, ?_⟩
      · rintro k v σ' hv ⟨-, l', rfl, hsub⟩
        obtain ⟨hk, rfl⟩ := v_is1 _ _ _ hv
        rw [show (0 : Int) + (k : Int) = (k : Int) by omega]
        refine Asg_sub hsub ?_
        clear hsub hv
        repeat walk_at "ev"
        refine Ev_lstC (by decide) ?_
        repeat walk_at "ev"
        have hlen := tst_len mv sto k
        refine Ex_for (fun m σ => ∃ l', σ = ⟨l', tst mv sto k ++ [MO.list [nI (part mv k m 0), nI (part mv k m 1)]]⟩ ∧ Sub [("pair", .ref (tst mv sto k).length), ("subset", nI k), ("table", .ref sto.length), ("moves", movV mv)] l') (fun _ _ => rfl) ?_
        repeat walk_at "ev"
        refine Ev_glob H.ndig (by rfl) ⟨_, rfl, H.kdig, ?_⟩
        repeat walk_at "ev"
        refine CallV_fun ((dig_spec H k hk _).mono ?_) (Nat.le_refl _)
        rintro v s ⟨rfl, rfl⟩
        refine ⟨_, .lst _, ⟨_, rfl, .cons rfl (.cons rfl (.cons rfl (.cons rfl .nil)))⟩, ?_, ?_⟩
        · rintro m v σ' hv ⟨l', rfl, hsub⟩
          obtain ⟨p, hmp, rfl⟩ : ∃ p, (dig k)[m]? = some p ∧ v = nI p := by
            rw [List.getElem?_map] at hv
            cases hp : (dig k)[m]? with
            | none => rw [hp] at hv; cases hv
            | some p => rw [hp] at hv; cases hv; exact ⟨p, rfl, rfl⟩
          have hp4 := (mem_dig.mp (List.mem_of_getElem? hmp)).1
          have c1 : ∀ x y : V, (tst mv sto k ++ [MO.list [x, y]])[(tst mv sto k).length]? = some (.list [x, y]) := fun x y => by simp
          refine Asg_sub hsub ?_
          clear hsub hv
          repeat walk_at "ev"
          refine Ex_asgS (by rfl) ?_
          repeat walk_at "ev"
          refine Sub_list (vs := [nI (part mv k m 0), nI (part mv k m 1)]) (.inr ⟨_, rfl, (c1 _ _)⟩) (show 2 < 2 ^ 60 by decide) (v := nI (part mv k m 0)) (by rfl) ?_
          repeat walk_at "ev"
          refine Bin_mul (left64 (by decide) (by decide)) ?_
          repeat walk_at "ev"
          refine Sub_list (.inl rfl) (by simp) (show itemAt ((List.range 8).map fun k => nI (mv k)) _ = some (nI (mv (2 * p + 0))) from ?_) ?_
          · rw [← mov_at (show 2 * p + 0 < 8 by omega)]; congr 1
          refine Bin_or ?_
          rw [bor _ (part_lt hm _ _ _) _ (hm _), ← part_succ 0 hmp]
          repeat walk_at "ev"
          refine Set_list (vs := [nI (part mv k m 0), nI (part mv k m 1)]) (c1 _ _) (by decide) (by simp) (show 2 < 1000000 by decide) ?_
          rw [show (tst mv sto k ++ [MO.list [nI (part mv k m 0), nI (part mv k m 1)]]).set (tst mv sto k).length (.list ([nI (part mv k m 0), nI (part mv k m 1)].set (0 : Int).toNat (nI (part mv k (m + 1) 0)))) = tst mv sto k ++ [MO.list [nI (part mv k (m + 1) 0), nI (part mv k m 1)]] by simp]
          refine Then_next ?_
          dsimp only
          refine Exs_cons (Ex_asgS (by rfl) ?_)
          repeat walk_at "ev"
          refine Sub_list (vs := [nI (part mv k (m + 1) 0), nI (part mv k m 1)]) (.inr ⟨_, rfl, (c1 _ _)⟩) (show 2 < 2 ^ 60 by decide) (v := nI (part mv k m 1)) (by rfl) ?_
          repeat walk_at "ev"
          refine Bin_mul (left64 (by decide) (by decide)) ?_
          repeat walk_at "ev"
          refine Sub_list (.inl rfl) (by simp) (show itemAt ((List.range 8).map fun k => nI (mv k)) _ = some (nI (mv (2 * p + 1))) from ?_) ?_
          · rw [← mov_at (show 2 * p + 1 < 8 by omega)]; congr 1
          refine Bin_or ?_
          rw [bor _ (part_lt hm _ _ _) _ (hm _), ← part_succ 1 hmp]
          repeat walk_at "ev"
          refine Set_list (vs := [nI (part mv k (m + 1) 0), nI (part mv k m 1)]) (c1 _ _) (by decide) (by simp) (show 2 < 1000000 by decide) ?_
          rw [show (tst mv sto k ++ [MO.list [nI (part mv k (m + 1) 0), nI (part mv k m 1)]]).set (tst mv sto k).length (.list ([nI (part mv k (m + 1) 0), nI (part mv k m 1)].set (1 : Int).toNat (nI (part mv k (m + 1) 1)))) = tst mv sto k ++ [MO.list [nI (part mv k (m + 1) 0), nI (part mv k (m + 1) 1)]] by simp]
          exact Then_next (Exs_nil ⟨[("pair", V.ref (tst mv sto k).length), ("subset", nI k), ("table", .ref sto.length), ("moves", movV mv)], .cons rfl (.cons rfl (.cons rfl (.cons rfl .nil))), _, rfl, .cons rfl (.cons rfl (.cons rfl (.cons rfl .nil)))⟩)
        · rintro σ' ⟨l', rfl, hsub⟩
          rw [List.length_map, part_all, part_all]
          refine Exs_nil (Then_next (Exs_sub hsub ?_))
          clear hsub
          show Exs _ (_ :: _) _ _
          refine Exs_cons (Ex_expr (by rfl) (by rfl) ?_)
          refine Ev_meth (fun _ => rfl) (by decide) (by rfl) (by rfl) PySem.F.slot_list_append PySem.F.type_list_append ?_
          repeat walk_at "ev"
          have hcell : (tst mv sto k ++ [MO.list [nI (img mv k 0), nI (img mv k 1)]])[sto.length]? = some (.list ((List.range k).map fun i => V.ref (sto.length + 1 + i))) := by
            rw [List.getElem?_append_left (by omega)]; exact tst_at mv sto k
          refine ⟨⟨sto.length, _, rfl, hcell⟩, ?_⟩
          repeat walk_at "ev"
          refine Call_append hcell (by simp; omega) ?_
          rw [tst_next]
          exact Then_next (Exs_nil ⟨[("table", .ref sto.length), ("moves", movV mv)], .cons rfl (.cons rfl .nil), by omega, _, rfl, .cons rfl (.cons rfl .nil)⟩)
      · rintro σ' ⟨-, l', rfl, hsub⟩
        rw [List.length_map, List.length_range]
        refine Exs_nil (Then_next (Exs_sub hsub ?_))
        show Exs _ (_ :: _) _ _
        repeat walk_at "ev"
        exact ⟨rfl, rfl⟩
  · rw [h.1, h.2]
    refine ⟨.new (Nat.le_refl _) (tst_at mv sto 16) (trim_refs _ (pairV mv) (fun s => [nI (img mv s 0), nI (img mv s 1)]) fun i hi => ⟨by omega, tst_pair mv sto 16 i (List.mem_range.mp hi), rfl, rfl⟩), rfl, by rw [tst_len]; omega, fun i m m' hi e e' => ?_⟩
    unfold tst at e
    rw [List.getElem?_append_left hi, e'] at e
    cases e
    exact MO.res (hs _ (List.mem_of_getElem? e'))
end
/-! the book of places -/
def bookL : List Nat → Nat → List (Int × V)
  | [], _ => []
  | t :: L, o => ((t : Int), nI o) :: bookL L (o + 1)
theorem bookL_keys : ∀ (L : List Nat) (o : Nat), (bookL L o).map (·.1) = L.map Int.ofNat
  | [], _ => rfl
  | t :: L, o => by rw [bookL, List.map_cons, List.map_cons, bookL_keys L]; rfl
theorem bookL_nodup {L : List Nat} (o : Nat) (h : L.Nodup) : ((bookL L o).map (·.1)).Nodup := by
  rw [bookL_keys, List.nodup_iff_pairwise_ne, List.pairwise_map]
  exact h.imp fun h e => h (Int.ofNat.inj e)
theorem bookL_len : ∀ (L : List Nat) (o : Nat), (bookL L o).length = L.length
  | [], _ => rfl
  | t :: L, o => by rw [bookL, List.length_cons, List.length_cons, bookL_len L]
theorem bookL_snoc (t : Nat) : ∀ (L : List Nat) (o : Nat), bookL (L ++ [t]) o = bookL L o ++ [((t : Int), nI (o + L.length))]
  | [], o => rfl
  | x :: L, o => by
    rw [List.cons_append, bookL, bookL, bookL_snoc t L, List.length_cons, show o + 1 + L.length = o + (L.length + 1) by omega]; rfl
theorem bookL_any (t : Nat) : ∀ (L : List Nat) (o : Nat), ((bookL L o).any fun p => p.1 = (t : Int)) = decide (t ∈ L)
  | [], o => by simp [bookL]
  | x :: L, o => by
    rw [bookL, List.any_cons, bookL_any t L, Bool.eq_iff_iff]
    simp only [Bool.or_eq_true, decide_eq_true_eq, List.mem_cons]
    constructor
    · rintro (h | h)
      · exact .inl (by omega)
      · exact .inr h
    · rintro (h | h)
      · exact .inl (by omega)
      · exact .inr h
theorem bookL_find (t : Nat) : ∀ (L : List Nat) (o : Nat), t ∈ L → ((bookL L o).find? fun p => p.1 = (t : Int)) = some ((t : Int), nI (L.idxOf t + o))
  | x :: L, o, h => by
    by_cases e : x = t
    · subst e
      rw [bookL, List.find?_cons_of_pos (by simp), List.idxOf_cons_self, Nat.zero_add]
    · rw [bookL, List.find?_cons_of_neg (by simp; omega)]
      have h' : t ∈ L := by
        rcases List.mem_cons.mp h with h | h
        · exact absurd h.symm e
        · exact h
      rw [bookL_find t L (o + 1) h', List.idxOf_cons, show (x == t) = false from by simpa using e, show (bif false then 0 else L.idxOf t + 1) + o = L.idxOf t + (o + 1) from by show L.idxOf t + 1 + o = _; omega]
theorem bookL_put {L : List Nat} {t o : Nat} (h : t ∉ L) : dput (bookL L o) (t : Int) (nI (o + L.length)) = bookL (L ++ [t]) o := by
  unfold dput
  rw [bookL_any, decide_eq_false h, if_neg (by decide), bookL_snoc]
/-! the three places that the step turns -/
def three (S : List MO) (b l r : Nat) (es : List (Int × V)) (L rows : List V) : List MO := ((S.set b (.dict (ikv es))).set l (.list L)).set r (.list rows)
structure Ind (S : List MO) (b l r t : Nat) : Prop where
  bl : b ≠ l
  br : b ≠ r
  lr : l ≠ r
  tb : t ≠ b
  tl : t ≠ l
  tr : t ≠ r
  b : b < S.length
  l : l < S.length
  r : r < S.length
section
variable {S : List MO} {b l r t : Nat} {es es' : List (Int × V)} {L L' rows rows' : List V} (I : Ind S b l r t)
include I
theorem three_b : (three S b l r es L rows)[b]? = some (.dict (ikv es)) := by
  unfold three; rw [List.getElem?_set_ne (Ne.symm I.br), List.getElem?_set_ne (Ne.symm I.bl), List.getElem?_set_self I.b]
theorem three_l : (three S b l r es L rows)[l]? = some (.list L) := by
  unfold three; rw [List.getElem?_set_ne (Ne.symm I.lr), List.getElem?_set_self (by rw [List.length_set]; exact I.l)]
theorem three_r : (three S b l r es L rows)[r]? = some (.list rows) := by
  unfold three; rw [List.getElem?_set_self (by rw [List.length_set, List.length_set]; exact I.r)]
theorem three_t : (three S b l r es L rows)[t]? = S[t]? := by
  unfold three; rw [List.getElem?_set_ne (Ne.symm I.tr), List.getElem?_set_ne (Ne.symm I.tl), List.getElem?_set_ne (Ne.symm I.tb)]
theorem three_set_b : (three S b l r es L rows).set b (.dict (ikv es')) = three S b l r es' L rows := by
  unfold three
  rw [List.set_comm _ _ (Ne.symm I.br), List.set_comm _ _ (Ne.symm I.bl), List.set_set]
theorem three_set_l : (three S b l r es L rows).set l (.list L') = three S b l r es L' rows := by
  unfold three
  rw [List.set_comm _ _ (Ne.symm I.lr), List.set_set]
omit I in
theorem three_set_r : (three S b l r es L rows).set r (.list rows') = three S b l r es L rows' := by
  unfold three
  rw [List.set_set]
omit I in
theorem three_len : (three S b l r es L rows).length = S.length := by unfold three; rw [List.length_set, List.length_set, List.length_set]
end
section
variable (mv : Nat → Nat) (f0 : Nat)
def rowV (o c : Nat) : V := .lst [nI (pos mv f0 (R mv f0 (2 * c)) + o), nI (pos mv f0 (R mv f0 (2 * c + 1)) + o)]
def rowsL (o k : Nat) : List V := ((CC mv f0).take k).map (rowV mv f0 o)
/-- the store when the line is laid up to M and k rows are told -/
def UU (S : List MO) (b l r : Nat) (pre : List V) (M k : Nat) : List MO :=
  three S b l r (bookL (LL mv f0 M) pre.length) (pre ++ (LL mv f0 M).map nI) (rowsL mv f0 pre.length k)
theorem rowsL_succ {o k c : Nat} (h : (CC mv f0)[k]? = some c) : rowsL mv f0 o (k + 1) = rowsL mv f0 o k ++ [rowV mv f0 o c] := by
  unfold rowsL
  rw [List.take_add_one, h, List.map_append]; rfl
end
theorem tab_at {mv : Nat → Nat} {s : Nat} (h : s < 16) : itemAt ((List.range 16).map (pairV mv)) (s : Int) = some (pairV mv s) := by
  unfold itemAt
  rw [if_pos (by omega), Int.toNat_natCast, List.getElem?_map, List.getElem?_range h]; rfl
section
variable {G : Gl} {ar am ow ad at_ au al an aw : Addr} (H : Gs1 G ar am ow ad at_ au al an aw)
include H
theorem unf_walk {mv : Nat → Nat} {f0 : Nat} (hm : ∀ k, mv k < 16) (h0 : f0 < 16) {S : List MO} {b l r t : Nat} (I : Ind S b l r t) (ht : S[t]? = some (.tup [.ref b, .ref l, .ref r, tabV mv])) {pre : List V} (hpre : pre.length ≤ 1) {k c : Nat} (hk : (CC mv f0)[k]? = some c) :
    Exs (cx G 7 0) (bodyAt 7) ⟨[("subset", nI (R mv f0 c)), ("state", .ref t)], UU mv f0 S b l r pre (2 * c) k⟩ fun fl σ => fl.val = .ref t ∧ σ.sto = (UU mv f0 S b l r pre (2 * c + 2) k).set r (.list (rowsL mv f0 pre.length k ++ [.ref S.length])) ++ [.list [nI (pos mv f0 (R mv f0 (2 * c)) + pre.length), nI (pos mv f0 (R mv f0 (2 * c + 1)) + pre.length)]] := by
  have hc := CC_lt mv f0 hm h0 hk
  show Exs _ (_ :: _) _ _
  refine Exs_cons (Ex_asgT (by rfl) (by rfl) (Ev_name (v := .ref t) rfl (by rfl) (Asg_tupC (vs := [.ref b, .ref l, .ref r, tabV mv]) (by rw [← ht]; exact three_t I) (by rfl) (by rfl) ?_)))
  repeat walk_at "ev"
  refine Ev_lstC (by decide) ?_
  repeat walk_at "ev"
  have hlen : ∀ M, (UU mv f0 S b l r pre M k).length = S.length := fun M => three_len
  rw [hlen]
  have cb : ∀ M x, (UU mv f0 S b l r pre M k ++ [x])[b]? = some (.dict (ikv (bookL (LL mv f0 M) pre.length))) := fun M x => by
    rw [List.getElem?_append_left (by rw [hlen]; exact I.b)]; exact three_b I
  have cl : ∀ M x, (UU mv f0 S b l r pre M k ++ [x])[l]? = some (.list (pre ++ (LL mv f0 M).map nI)) := fun M x => by
    rw [List.getElem?_append_left (by rw [hlen]; exact I.l)]; exact three_l I
  have cr : ∀ M x, (UU mv f0 S b l r pre M k ++ [x])[S.length]? = some x := fun M x => by
    rw [← hlen M, List.getElem?_append_right (Nat.le_refl _), Nat.sub_self]; rfl
  refine Ex_for (fun m σ => m ≤ 2 ∧ ∃ l', σ = ⟨l', UU mv f0 S b l r pre (2 * c + m) k ++ [.list ((List.range m).map fun i => nI (pos mv f0 (R mv f0 (2 * c + i)) + pre.length))]⟩ ∧ Sub [("row", V.ref S.length), ("table", tabV mv), ("rows", .ref r), ("line", .ref l), ("book", .ref b), ("subset", nI (R mv f0 c)), ("state", .ref t)] l') (fun _ _ => rfl) ?_
  repeat walk_at "ev"
  refine Sub_list (vs := (List.range 16).map (pairV mv)) (.inl rfl) (by simp) (tab_at (R_lt mv f0 hm h0 c)) ?_
  refine ⟨_, .lst _, ⟨by decide, _, rfl, .cons rfl (.cons rfl (.cons rfl (.cons rfl (.cons rfl (.cons rfl (.cons rfl .nil))))))⟩, ?_, ?_⟩
  · rintro m v σ' hv ⟨-, l', rfl, hsub⟩
    have hm2 : m < 2 := (List.getElem?_eq_some_iff.mp hv).1
    have hRm : R mv f0 (2 * c + m) = img mv (R mv f0 c) m := R_two mv f0 c m hc.1 hm2
    obtain rfl : v = nI (R mv f0 (2 * c + m)) := by
      rw [hRm]
      rcases (by omega : m = 0 ∨ m = 1) with rfl | rfl <;> (injection hv with hv; exact hv.symm)
    have hM1 : 1 ≤ 2 * c + m := by omega
    have hLL := LL_len mv f0 hm h0 (2 * c + m)
    refine Asg_sub hsub ?_
    clear hsub hv
    repeat walk_at "ev"
    refine Cmp_nin_dic (cb _ _) (bookL_nodup _ (LL_nodup mv f0 _)) ?_
    rw [bookL_any]
    repeat walk_at "ev"
    have tail : ∀ σ : St, σ = ⟨[("image", nI (R mv f0 (2 * c + m))), ("row", V.ref S.length), ("table", tabV mv), ("rows", .ref r), ("line", .ref l), ("book", .ref b), ("subset", nI (R mv f0 c)), ("state", .ref t)], UU mv f0 S b l r pre (2 * c + m + 1) k ++ [.list ((List.range m).map fun i => nI (pos mv f0 (R mv f0 (2 * c + i)) + pre.length))]⟩ →
        Exs (cx G 7 0) (match (bodyAt 7).getD 2 (.Pass ⟨0, 0, 0, 0⟩) with | .For _ _ b _ _ => b.drop 1 | _ => []) σ (Turn (fun σ => m + 1 ≤ 2 ∧ ∃ l', σ = ⟨l', UU mv f0 S b l r pre (2 * c + (m + 1)) k ++ [.list ((List.range (m + 1)).map fun i => nI (pos mv f0 (R mv f0 (2 * c + i)) + pre.length))]⟩ ∧ Sub [("row", V.ref S.length), ("table", tabV mv), ("rows", .ref r), ("line", .ref l), ("book", .ref b), ("subset", nI (R mv f0 c)), ("state", .ref t)] l') (Then (cx G 7 0) ((bodyAt 7).drop 3) fun fl σ => fl.val = .ref t ∧ σ.sto = (UU mv f0 S b l r pre (2 * c + 2) k).set r (.list (rowsL mv f0 pre.length k ++ [.ref S.length])) ++ [.list [nI (pos mv f0 (R mv f0 (2 * c)) + pre.length), nI (pos mv f0 (R mv f0 (2 * c + 1)) + pre.length)]])) := by
      rintro σ rfl
      show Exs _ (_ :: _) _ _
      refine Exs_cons (Ex_expr (by rfl) (by rfl) ?_)
      refine Ev_meth (fun _ => rfl) (by decide) (by rfl) (by rfl) PySem.F.slot_list_append PySem.F.type_list_append ?_
      repeat walk_at "ev"
      refine ⟨⟨S.length, _, rfl, cr _ _⟩, ?_⟩
      repeat walk_at "ev"
      have hin := mem_LL1 mv f0 hM1
      refine Sub_dic (cb _ _) (bookL_nodup _ (LL_nodup mv f0 _)) (bookL_find _ _ _ hin) ?_
      rw [LL_pos mv f0 hm h0 hin]
      repeat walk_at "ev"
      refine Call_append (cr _ _) (by simp; omega) ?_
      refine Then_next (Exs_nil ⟨[("row", V.ref S.length), ("table", tabV mv), ("rows", .ref r), ("line", .ref l), ("book", .ref b), ("subset", nI (R mv f0 c)), ("state", .ref t)], .cons rfl (.cons rfl (.cons rfl (.cons rfl (.cons rfl (.cons rfl (.cons rfl .nil)))))), by omega, [("row", V.ref S.length), ("table", tabV mv), ("rows", .ref r), ("line", .ref l), ("book", .ref b), ("subset", nI (R mv f0 c)), ("state", .ref t)], ?_, .cons rfl (.cons rfl (.cons rfl (.cons rfl (.cons rfl (.cons rfl (.cons rfl .nil))))))⟩)
      congr 1
      rw [show 2 * c + (m + 1) = 2 * c + m + 1 by omega, List.range_succ, List.map_append]
      rw [← hlen (2 * c + m + 1), List.set_append_right _ _ (Nat.le_refl _), Nat.sub_self]
      rfl
    by_cases hf : isF mv f0 (2 * c + m)
    · have hnot : R mv f0 (2 * c + m) ∉ LL mv f0 (2 * c + m) := fun h => (mem_LL mv f0 hM1).mp h hf
      have hLs : LL mv f0 (2 * c + m + 1) = LL mv f0 (2 * c + m) ++ [R mv f0 (2 * c + m)] := by rw [LL_succ, if_pos hf]
      rw [decide_eq_false hnot]
      simp only [Bool.not_false, if_true]
      show Exs _ (_ :: _) _ _
      refine Exs_cons (Ex_asgS (by rfl) ?_)
      repeat walk_at "ev"
      refine Ev_boot H.nlen c_len (by rfl) ⟨_, rfl, Kp_builtin, ?_⟩
      repeat walk_at "ev"
      refine Call_len (.inr ⟨l, rfl, cl _ _⟩) (by simp; omega) ?_
      repeat walk_at "ev"
      rw [show V.int ((pre ++ (LL mv f0 (2 * c + m)).map nI).length : Int) = nI (pre.length + (LL mv f0 (2 * c + m)).length) by rw [List.length_append, List.length_map]]
      refine Set_dict (cb _ _) (bookL_nodup _ (LL_nodup mv f0 _)) (by rw [bookL_len]; omega) ?_
      rw [bookL_put hnot, ← hLs, List.set_append_left _ _ (by rw [hlen]; exact I.b)]
      refine Then_next ?_
      refine Exs_cons (Ex_expr (by rfl) (by rfl) ?_)
      refine Ev_meth (fun _ => rfl) (by decide) (by rfl) (by rfl) PySem.F.slot_list_append PySem.F.type_list_append ?_
      repeat walk_at "ev"
      have e1 : (UU mv f0 S b l r pre (2 * c + m) k).set b (.dict (ikv (bookL (LL mv f0 (2 * c + m + 1)) pre.length))) = three S b l r (bookL (LL mv f0 (2 * c + m + 1)) pre.length) (pre ++ (LL mv f0 (2 * c + m)).map nI) (rowsL mv f0 pre.length k) := three_set_b I
      rw [e1]
      have cl2 : ∀ x, (three S b l r (bookL (LL mv f0 (2 * c + m + 1)) pre.length) (pre ++ (LL mv f0 (2 * c + m)).map nI) (rowsL mv f0 pre.length k) ++ [x])[l]? = some (.list (pre ++ (LL mv f0 (2 * c + m)).map nI)) := fun x => by
        rw [List.getElem?_append_left (by rw [three_len]; exact I.l)]; exact three_l I
      refine ⟨⟨l, _, rfl, cl2 _⟩, ?_⟩
      repeat walk_at "ev"
      refine Call_append (cl2 _) (by simp; omega) ?_
      rw [List.set_append_left _ _ (by rw [three_len]; exact I.l), three_set_l I]
      refine Then_next (Exs_nil (Then_next (tail _ ?_)))
      congr 1
      unfold UU
      rw [hLs, List.map_append, List.append_assoc]; rfl
    · have hin : R mv f0 (2 * c + m) ∈ LL mv f0 (2 * c + m) := (mem_LL mv f0 hM1).mpr hf
      have hLs : LL mv f0 (2 * c + m + 1) = LL mv f0 (2 * c + m) := by rw [LL_succ, if_neg hf, List.append_nil]
      rw [decide_eq_true hin]
      simp only [Bool.not_true, Bool.false_eq_true, if_false]
      refine Exs_nil (Then_next (tail _ ?_))
      unfold UU
      rw [hLs]
  · rintro σ' ⟨-, l', rfl, hsub⟩
    refine Exs_nil (Then_next (Exs_sub hsub ?_))
    clear hsub
    have cr3 : (UU mv f0 S b l r pre (2 * c + 2) k ++ [MO.list ((List.range 2).map fun i => nI (pos mv f0 (R mv f0 (2 * c + i)) + pre.length))])[r]? = some (.list (rowsL mv f0 pre.length k)) := by
      rw [List.getElem?_append_left (by rw [hlen]; exact I.r)]; exact three_r I
    have hrl : (rowsL mv f0 pre.length k).length ≤ 16 := by unfold rowsL; rw [List.length_map, List.length_take]; have := FC_len mv f0 hm h0 65536; show min k (FC mv f0 65536).length ≤ 16; omega
    show Exs _ (_ :: _) _ _
    refine Exs_cons (Ex_expr (by rfl) (by rfl) ?_)
    refine Ev_meth (fun _ => rfl) (by decide) (by rfl) (by rfl) PySem.F.slot_list_append PySem.F.type_list_append ?_
    repeat walk_at "ev"
    refine ⟨⟨r, _, rfl, cr3⟩, ?_⟩
    repeat walk_at "ev"
    refine Call_append cr3 (by omega) ?_
    rw [List.set_append_left _ _ (by rw [hlen]; exact I.r)]
    repeat walk_at "ev"
    exact ⟨rfl, rfl⟩
end
theorem Ress.snoc {s : List MO} {k : Nat} {x y : V} (h : Res s k x y) : ∀ {a : List V}, los k a = true → Ress s k (a ++ [x]) (a ++ [y])
  | [], _ => .cons h .nil
  | v :: a, e => by
    have e' : v.lo k = true ∧ los k a = true := by simpa [los] using e
    exact .cons (Res.lo v e'.1) (Ress.snoc h e'.2)
mutual
theorem V.lo_mono {k n : Nat} (h : k ≤ n) : ∀ v : V, v.lo k = true → v.lo n = true
  | .none, _ => rfl
  | .bool _, _ => rfl
  | .int _, _ => rfl
  | .str _, _ => rfl
  | .rng _ _ _, _ => rfl
  | .con _, _ => rfl
  | .ref i, e => decide_eq_true (Nat.lt_of_lt_of_le (of_decide_eq_true e) h)
  | .tup vs, e => los_mono h vs e
  | .lst vs, e => los_mono h vs e
  | .dct ds, e => dlos_mono h ds e
theorem los_mono {k n : Nat} (h : k ≤ n) : ∀ vs : List V, los k vs = true → los n vs = true
  | [], _ => rfl
  | v :: vs, e => by
    have e' : v.lo k = true ∧ los k vs = true := by simpa [los] using e
    simp [los, V.lo_mono h v e'.1, los_mono h vs e'.2]
theorem dlos_mono {k n : Nat} (h : k ≤ n) : ∀ ds : List (V × V), dlos k ds = true → dlos n ds = true
  | [], _ => rfl
  | (_, v) :: vs, e => by
    have e' : v.lo k = true ∧ dlos k vs = true := by simpa [dlos] using e
    simp [dlos, V.lo_mono h v e'.1, dlos_mono h vs e'.2]
end
theorem MO.lo_mono {k n : Nat} (h : k ≤ n) {m : MO} (e : m.lo k = true) : m.lo n = true := by
  cases m with
  | list vs => exact los_mono h vs e
  | dict ds => exact dlos_mono h ds e
  | tup vs => exact los_mono h vs e
  | iter v n => exact V.lo_mono h v e
  | junk => rfl
theorem Clo.add {s r : List MO} (h : Clo s) (hr : ∀ m ∈ r, m.lo (s.length + r.length) = true) : Clo (s ++ r) := fun o ho => by
  rw [List.length_append]
  rcases List.mem_append.mp ho with h' | h'
  · exact MO.lo_mono (Nat.le_add_right _ _) (h o h')
  · exact hr o h'
theorem Clo.set {s : List MO} {i : Nat} {m : MO} (h : Clo s) (hm : m.lo s.length = true) : Clo (s.set i m) := by
  intro o ho
  rw [List.length_set]
  rcases List.mem_or_eq_of_mem_set ho with h' | rfl
  · exact h o h'
  · exact hm
theorem los_append (k : Nat) (a b : List V) : los k (a ++ b) = (los k a && los k b) := by
  induction a with
  | nil => rfl
  | cons x a ih => show (x.lo k && los k (a ++ b)) = (x.lo k && los k a && los k b); rw [ih, Bool.and_assoc]
theorem los_nI (k : Nat) (l : List Nat) : los k (l.map nI) = true := (los_all k _).mpr fun v hv => by
  obtain ⟨i, -, rfl⟩ := List.mem_map.mp hv; rfl
theorem bookL_lo (k : Nat) : ∀ (L : List Nat) (o : Nat), dlos k (ikv (bookL L o)) = true
  | [], _ => rfl
  | t :: L, o => by
    show (true && dlos k (ikv (bookL L (o + 1)))) = true
    rw [bookL_lo k L]; rfl
theorem rowsL_lo (mv : Nat → Nat) (f0 o k n : Nat) : los n (rowsL mv f0 o k) = true := (los_all n _).mpr fun v hv => by
  obtain ⟨i, -, rfl⟩ := List.mem_map.mp hv; rfl
theorem UU_clo {mv : Nat → Nat} {f0 : Nat} {S : List MO} {b l r M k : Nat} {pre : List V} (hS : Clo S) (hp : los S.length pre = true) : Clo (UU mv f0 S b l r pre M k) := by
  unfold UU three
  refine ((hS.set (show (MO.dict (ikv (bookL (LL mv f0 M) pre.length))).lo S.length = true from bookL_lo _ _ _)).set ?_).set ?_
  · rw [List.length_set]
    show los _ _ = true
    rw [los_append, hp, los_nI]; rfl
  · exact rowsL_lo _ _ _ _ _
theorem UU_len {mv : Nat → Nat} {f0 : Nat} {S : List MO} {b l r M k : Nat} {pre : List V} : (UU mv f0 S b l r pre M k).length = S.length := three_len
theorem UU_eq {mv : Nat → Nat} {f0 : Nat} {S : List MO} {b l r M M' k : Nat} {pre : List V} (h : FC mv f0 M = FC mv f0 M') : UU mv f0 S b l r pre M k = UU mv f0 S b l r pre M' k := by
  unfold UU LL; rw [h]
theorem UU_swap {mv : Nat → Nat} {f0 : Nat} {S : List MO} {b l r t M k : Nat} {pre : List V} {x y : MO} (I : Ind S b l r t) : (UU mv f0 (S ++ [x]) b l r pre M k).set S.length y = UU mv f0 (S ++ [y]) b l r pre M k := by
  have h1 := I.b
  have h2 := I.l
  have h3 := I.r
  unfold UU three
  rw [List.set_comm _ _ (by omega : r ≠ S.length), List.set_comm _ _ (by omega : l ≠ S.length), List.set_comm _ _ (by omega : b ≠ S.length)]
  simp
theorem UU_out {mv : Nat → Nat} {f0 : Nat} {S : List MO} {b l r t M k : Nat} {pre : List V} {x : MO} (I : Ind S b l r t) : (UU mv f0 (S ++ [x]) b l r pre M k)[S.length]? = some x := by
  have h1 := I.b
  have h2 := I.l
  have h3 := I.r
  unfold UU three
  rw [List.getElem?_set_ne (by omega), List.getElem?_set_ne (by omega), List.getElem?_set_ne (by omega), List.getElem?_append_right (Nat.le_refl _), Nat.sub_self]; rfl
theorem Ind.more {S : List MO} {b l r t : Nat} (I : Ind S b l r t) (X : List MO) : Ind (S ++ X) b l r t :=
  ⟨I.bl, I.br, I.lr, I.tb, I.tl, I.tr, by rw [List.length_append]; have := I.b; omega, by rw [List.length_append]; have := I.l; omega, by rw [List.length_append]; have := I.r; omega⟩
theorem three_self {S : List MO} {b l r : Nat} {es : List (Int × V)} {L rows : List V} (h1 : S[b]? = some (.dict (ikv es))) (h2 : S[l]? = some (.list L)) (h3 : S[r]? = some (.list rows)) : three S b l r es L rows = S := by
  obtain ⟨b1, e1⟩ := List.getElem?_eq_some_iff.mp h1
  obtain ⟨b2, e2⟩ := List.getElem?_eq_some_iff.mp h2
  obtain ⟨b3, e3⟩ := List.getElem?_eq_some_iff.mp h3
  unfold three
  rw [← e1, List.set_getElem_self, ← e2, List.set_getElem_self, ← e3, List.set_getElem_self]
section
variable {G : Gl} {ar am ow ad at_ au al an aw : Addr} (H : Gs1 G ar am ow ad at_ au al an aw)
include H
theorem unf_spec {mv : Nat → Nat} {f0 : Nat} (hm : ∀ k, mv k < 16) (h0 : f0 < 16) {S : List MO} {b l r t : Nat} (I : Ind S b l r t) (ht : S[t]? = some (.tup [.ref b, .ref l, .ref r, tabV mv])) {pre : List V} (hpre : pre.length ≤ 1) (hS : Clo S) (hp : los S.length pre = true) {k c : Nat} (hk : (CC mv f0)[k]? = some c) :
    Calls G 1 (.ref au) [.ref t, nI (R mv f0 c)] (UU mv f0 S b l r pre (BB mv f0 k) k) fun v s => v = .ref t ∧ s = UU mv f0 S b l r pre (BB mv f0 (k + 1)) (k + 1) := by
  have hB : BB mv f0 k = 2 * c := by unfold BB; rw [hk]
  rw [hB, ← UU_eq (k := k + 1) (BB_next mv f0 hm h0 hk)]
  refine Calls_trim (Q' := fun v s => v = .ref t ∧ s = (UU mv f0 S b l r pre (2 * c + 2) k).set r (.list (rowsL mv f0 pre.length k ++ [.ref S.length])) ++ [.list [nI (pos mv f0 (R mv f0 (2 * c)) + pre.length), nI (pos mv f0 (R mv f0 (2 * c + 1)) + pre.length)]]) ?_ fun v s h => ⟨.ref t, _, ?_, rfl, rfl⟩
  · refine fn_calls H.unf [("state", .ref t), ("subset", nI (R mv f0 c))] (fun nm kV doc pm an cd ct w W xs hx => ?_) (by rfl) (unf_walk H hm h0 I ht hpre hk)
    obtain ⟨x, y, rfl, r1, r2⟩ := two_of hx
    exact ⟨_, .cons r1 (.cons r2 .nil), rfl⟩
  · have htl : t < S.length := (List.getElem?_eq_some_iff.mp ht).1
    rw [h.1, h.2, UU_len]
    refine ⟨.old htl, UU_len, by rw [List.length_append, List.length_set, UU_len]; omega, fun i m m' hi e e' => ?_⟩
    rw [List.getElem?_append_left (by rw [List.length_set, UU_len]; exact hi)] at e
    by_cases hir : i = r
    · subst hir
      rw [List.getElem?_set_self (by rw [UU_len]; exact hi)] at e
      rw [show (UU mv f0 S b l i pre (2 * c + 2) (k + 1))[i]? = some (.list (rowsL mv f0 pre.length (k + 1))) from three_r I] at e'
      cases e; cases e'
      rw [rowsL_succ mv f0 hk]
      refine .list (Ress.snoc (.new (Nat.le_refl _) ?_ (Ress.lo _ rfl)) (rowsL_lo _ _ _ _ _))
      rw [List.getElem?_append_right (by rw [List.length_set, UU_len]; omega), List.length_set, UU_len, Nat.sub_self]; rfl
    · rw [List.getElem?_set_ne (Ne.symm hir)] at e
      have same : (UU mv f0 S b l r pre (2 * c + 2) (k + 1))[i]? = (UU mv f0 S b l r pre (2 * c + 2) k)[i]? := by
        unfold UU three
        rw [List.getElem?_set_ne (Ne.symm hir), List.getElem?_set_ne (Ne.symm hir)]
      rw [same, e] at e'
      cases e'
      have := UU_clo (mv := mv) (f0 := f0) (b := b) (l := l) (r := r) (M := 2 * c + 2) (k := k) hS hp m (List.mem_of_getElem? e)
      rw [UU_len] at this
      exact MO.res this
theorem unf_fold {mv : Nat → Nat} {f0 : Nat} (hm : ∀ k, mv k < 16) (h0 : f0 < 16) {S : List MO} {b l r t : Nat} (I : Ind S b l r t) (ht : S[t]? = some (.tup [.ref b, .ref l, .ref r, tabV mv])) {pre : List V} (hpre : pre.length ≤ 1) (hS : Clo S) (hp : los S.length pre = true) :
    Fold G 1 (.ref au) (.ref l) S.length (fun p v s => ∃ k, p = pre.length + k ∧ v = .ref t ∧ s = UU mv f0 (S ++ [.iter (.ref l) p]) b l r pre (BB mv f0 k) k) (fun p _ => 40 - p) (fun v s => v = .ref t ∧ s = UU mv f0 (S ++ [.junk]) b l r pre 65536 (CC mv f0).length) := by
  rintro p v s ⟨k, rfl, rfl, rfl⟩
  have hll : ∀ x : MO, Ind (S ++ [x]) b l r t := fun x => I.more [x]
  have hlen := LL_len mv f0 hm h0 (BB mv f0 k)
  have hlf : (LL mv f0 (BB mv f0 k)).length = (FC mv f0 (BB mv f0 k)).length := by unfold LL; rw [List.length_map]
  refine ⟨UU_out I, _, .inr ⟨l, rfl, three_l (hll _)⟩, fun el hel => ?_, fun hl => ?_⟩
  · rw [List.getElem?_append_right (by omega), show pre.length + k - pre.length = k by omega, List.getElem?_map] at hel
    have hkb : k < (LL mv f0 (BB mv f0 k)).length := by
      apply Classical.byContradiction
      intro hn
      rw [List.getElem?_eq_none (by omega)] at hel; cases hel
    obtain ⟨c, hk⟩ : ∃ c, (CC mv f0)[k]? = some c := by
      cases hc : (CC mv f0)[k]? with
      | some c => exact ⟨c, rfl⟩
      | none =>
        have hlc := List.getElem?_eq_none_iff.mp hc
        have := BB_none mv f0 hlc
        rw [this] at hlf
        omega
    have hat := BB_at mv f0 hm h0 hk
    have hel2 : (LL mv f0 (BB mv f0 k))[k]? = some (R mv f0 c) := by unfold LL; rw [List.getElem?_map, hat]; rfl
    rw [hel2] at hel
    cases hel
    rw [UU_swap I]
    have htl : t < S.length := (List.getElem?_eq_some_iff.mp ht).1
    have hS' : Clo (S ++ [MO.iter (.ref l) (pre.length + k + 1)]) := hS.add fun m hm => by
      cases hm with
      | head => exact decide_eq_true (Nat.lt_of_lt_of_le I.l (Nat.le_add_right _ _))
      | tail _ h => cases h
    refine (unf_spec H hm h0 (hll (.iter (.ref l) (pre.length + k + 1))) (by rw [List.getElem?_append_left htl]; exact ht) hpre hS' (los_mono (by rw [List.length_append]; omega) pre hp) hk).mono ?_
    intro v s h
    exact ⟨⟨k + 1, by omega, h.1, h.2⟩, by dsimp only; omega⟩
  · rw [List.length_append, List.length_map, hlf] at hl
    have hlc := BB_len mv f0 hm h0 (k := k) (by omega)
    refine ⟨rfl, ?_⟩
    rw [UU_swap I]
    rw [UU_eq (M' := 65536) (BB_none mv f0 hlc)]
    have : rowsL mv f0 pre.length k = rowsL mv f0 pre.length (CC mv f0).length := by
      unfold rowsL
      rw [List.take_of_length_le hlc, List.take_length]
    unfold UU
    rw [this]
end
theorem UU_zero {mv : Nat → Nat} {f0 : Nat} {S : List MO} {b l r : Nat} {pre : List V} (h1 : S[b]? = some (.dict (ikv [((f0 : Int), nI pre.length)]))) (h2 : S[l]? = some (.list (pre ++ [nI f0]))) (h3 : S[r]? = some (.list [])) : UU mv f0 S b l r pre (BB mv f0 0) 0 = S := by
  have hL : LL mv f0 (BB mv f0 0) = [f0] := by unfold LL; rw [FC_BB_zero]; show [R mv f0 1] = _; rw [R_one]
  unfold UU
  rw [hL]
  exact three_self h1 h2 (by rw [h3]; rfl)
theorem three_more {S : List MO} {i : Nat} {m x : MO} (h : S[i]? = some m) : (S ++ [x])[i]? = some m := by
  rw [List.getElem?_append_left (List.getElem?_eq_some_iff.mp h).1]; exact h
section
variable {G : Gl} {ar am ow ad at_ au al an aw : Addr} (H : Gs1 G ar am ow ad at_ au al an aw)
include H
theorem red_unf {mv : Nat → Nat} {f0 : Nat} (hm : ∀ k, mv k < 16) (h0 : f0 < 16) {S : List MO} {b l r t : Nat} (I : Ind S b l r t) (ht : S[t]? = some (.tup [.ref b, .ref l, .ref r, tabV mv])) (hS : Clo S)
    (h1 : S[b]? = some (.dict (ikv [((f0 : Int), nI 0)]))) (h2 : S[l]? = some (.list [nI f0])) (h3 : S[r]? = some (.list [])) :
    Calls G 2 (.ref ar) [.con (.ref au), .ref l, .ref t] S fun v s => v = .ref t ∧ s = UU mv f0 (S ++ [.junk]) b l r [] 65536 (CC mv f0).length :=
  red_bind3 H.red (reduce_list H.red.miss H.kunf (Nat.le_refl 1) (.inr ⟨l, rfl, h2⟩) (unf_fold H hm h0 I ht (pre := []) (Nat.zero_le _) hS rfl) (.inl ⟨rfl, 0, rfl, rfl, (UU_zero (three_more h1) (three_more h2) (three_more h3)).symm⟩))
theorem red_unf_it {mv : Nat → Nat} {f0 : Nat} (hm : ∀ k, mv k < 16) (h0 : f0 < 16) {S : List MO} {b l r t : Nat} (I : Ind S b l r t) (ht : S[t]? = some (.tup [.ref b, .ref l, .ref r, tabV mv])) (hS : Clo S)
    (h1 : S[b]? = some (.dict (ikv [((f0 : Int), nI 0)]))) (h2 : S[l]? = some (.list [nI f0])) (h3 : S[r]? = some (.list [])) :
    Calls G 2 (.ref ar) [.con (.ref au), .ref S.length, .ref t] (S ++ [.iter (.ref l) 0]) fun v s => v = .ref t ∧ s = UU mv f0 (S ++ [.junk]) b l r [] 65536 (CC mv f0).length :=
  red_bind3 H.red (reduce_iter (j := S.length) H.red.miss H.kunf (Nat.le_refl 1) (by simp) (.inr ⟨l, rfl, three_more h2⟩) (unf_fold H hm h0 I ht (pre := []) (Nat.zero_le _) hS rfl) rfl ⟨0, rfl, rfl, (UU_zero (three_more h1) (three_more h2) (three_more h3)).symm⟩)
theorem red_unf_hd {mv : Nat → Nat} {f0 : Nat} (hm : ∀ k, mv k < 16) (h0 : f0 < 16) {S : List MO} {b l r t : Nat} (I : Ind S b l r t) (ht : S[t]? = some (.tup [.ref b, .ref l, .ref r, tabV mv])) (hS : Clo S)
    (h1 : S[b]? = some (.dict (ikv [((f0 : Int), nI 1)]))) (h2 : S[l]? = some (.list [.ref t, nI f0])) (h3 : S[r]? = some (.list [])) :
    Calls G 2 (.ref ar) [.con (.ref au), .ref l] S fun v s => v = .ref t ∧ s = UU mv f0 (S ++ [.junk]) b l r [.ref t] 65536 (CC mv f0).length := by
  have htl : t < S.length := (List.getElem?_eq_some_iff.mp ht).1
  exact red_bind2 H.red (reduce_list H.red.miss H.kunf (Nat.le_refl 1) (.inr ⟨l, rfl, h2⟩) (unf_fold H hm h0 I ht (pre := [.ref t]) (Nat.le_refl 1) hS (by simp [los, V.lo, htl])) (.inr ⟨rfl, .ref t, rfl, 0, rfl, rfl, (UU_zero (pre := [.ref t]) (three_more h1) (three_more h2) (three_more h3)).symm⟩))
end
/-! the book of least words -/
def prV (c : Nat) : V := .tup [nI c.log2, nI (c - 2 ^ c.log2)]
def bE (es : List (Nat × Nat)) : List (Int × V) := es.map fun p => ((p.1 : Int), prV p.2)
theorem bE_nodup {es : List (Nat × Nat)} (h : (es.map (·.1)).Nodup) : ((bE es).map (·.1)).Nodup := by
  unfold bE
  rw [List.map_map, List.nodup_iff_pairwise_ne, List.pairwise_map]
  rw [List.nodup_iff_pairwise_ne, List.pairwise_map] at h
  exact h.imp fun h e => h (Int.ofNat.inj e)
theorem bE_any (es : List (Nat × Nat)) (t : Nat) : ((bE es).any fun p => p.1 = (t : Int)) = es.any fun p => p.1 = t := by
  unfold bE
  rw [List.any_map]
  congr 1
  funext p
  simp
  omega
theorem bE_find : ∀ {es : List (Nat × Nat)} {t c : Nat}, (es.map (·.1)).Nodup → (t, c) ∈ es → ((bE es).find? fun p => p.1 = (t : Int)) = some ((t : Int), prV c)
  | p :: es, t, c, hn, h => by
    rw [List.map_cons, List.nodup_cons] at hn
    unfold bE
    rw [List.map_cons]
    rcases List.mem_cons.mp h with e | h
    · rw [← e, List.find?_cons_of_pos (by simp)]
    · have hne : p.1 ≠ t := by rintro rfl; exact hn.1 (List.mem_map.mpr ⟨_, h, rfl⟩)
      rw [List.find?_cons_of_neg (by simp; omega)]
      exact bE_find hn.2 h
theorem bE_put (es : List (Nat × Nat)) (t c : Nat) : dput (bE es) (t : Int) (prV c) = bE (nput es t c) := by
  unfold dput nput
  rw [bE_any]
  split
  · unfold bE
    rw [List.map_map, List.map_map]
    refine List.map_congr_left fun p _ => ?_
    show (if ((p.1 : Int)) = (t : Int) then ((p.1 : Int), prV c) else ((p.1 : Int), prV p.2)) = _
    by_cases e : p.1 = t
    · rw [if_pos (by omega)]
      show _ = (((if p.1 = t then (p.1, c) else p).1 : Int), prV (if p.1 = t then (p.1, c) else p).2)
      rw [if_pos e]
    · rw [if_neg (by omega)]
      show _ = (((if p.1 = t then (p.1, c) else p).1 : Int), prV (if p.1 = t then (p.1, c) else p).2)
      rw [if_neg e]
  · unfold bE
    rw [List.map_append]; rfl
theorem nput_key {es : List (Nat × Nat)} {s t c : Nat} (h : ∃ d, (s, d) ∈ es) : ∃ d, (s, d) ∈ nput es t c := by
  obtain ⟨d, hd⟩ := h
  unfold nput
  split
  · by_cases e : s = t
    · exact ⟨c, List.mem_map.mpr ⟨_, hd, by rw [if_pos e]⟩⟩
    · exact ⟨d, List.mem_map.mpr ⟨_, hd, by rw [if_neg e]⟩⟩
  · exact ⟨d, List.mem_append_left _ hd⟩
theorem pr_off {c b : Nat} (hc : 1 ≤ c) (hb : b < 2) : V.tup [.int ((c.log2 : Int) + 1), .int (2 * ((c - 2 ^ c.log2 : Nat) : Int) + (b : Int))] = prV (2 * c + b) := by
  obtain ⟨h1, h2⟩ := log_two hc hb
  unfold prV
  rw [h1, h2]
  rfl
theorem pr_lt {c d : Nat} (hc : 1 ≤ c) (hd : 1 ≤ d) : decide ((c.log2 : Int) < (d.log2 : Int) ∨ ((c.log2 : Int) = (d.log2 : Int) ∧ ((c - 2 ^ c.log2 : Nat) : Int) < ((d - 2 ^ d.log2 : Nat) : Int))) = decide (c < d) := by
  have := log_lt hc hd
  by_cases h : c < d
  · rw [decide_eq_true h, decide_eq_true]
    rcases this.mpr h with h1 | ⟨h1, h2⟩
    · exact .inl (by omega)
    · exact .inr ⟨by omega, by omega⟩
  · rw [decide_eq_false h, decide_eq_false]
    intro k
    refine h (this.mp ?_)
    rcases k with h1 | ⟨h1, h2⟩
    · exact .inl (by omega)
    · exact .inr ⟨by omega, by omega⟩
def letterBody : List Stmt := match (bodyAt 8).getD 2 (.Pass ⟨0, 0, 0, 0⟩) with
  | .While _ (_ :: .For _ _ (.If _ (.For _ _ b _ _ :: _) _ _ :: _) _ _ :: _) _ _ => b
  | _ => []
theorem Exs_mono {c : Cx} {sts : List Stmt} {σ : St} {P Q : Fl → St → Prop} (h : Exs c sts σ P) (k : ∀ fl σ, P fl σ → Q fl σ) : Exs c sts σ Q := DoG.mono h k
theorem Sub_self : ∀ (l : List (Str × V)), (∀ p ∈ l, l.lookup p.1 = some p.2) → Sub l l := fun _ h => h
section
variable {G : Gl} {ar am ow ad at_ au al an aw : Addr} (H : Gs1 G ar am ow ad at_ au al an aw)
include H
theorem lea_letter {mv : Nat → Nat} {f0 : Nat} (hm : ∀ k, mv k < 16) (h0 : f0 < 16) {es : List (Nat × Nat)} (B : BI mv f0 es) {s c b : Nat} (hs : (s, c) ∈ es) (hb : b < 2) {ch : Bool} {sto : List MO} :
    Exs (cx G 8 0) letterBody ⟨[("letter", nI b), ("subset", nI s), ("changed", .bool ch), ("best", .ref sto.length), ("table", tabV mv), ("first", nI f0)], sto ++ [.dict (ikv (bE es))]⟩
      fun fl σ => fl = .next ∧ ∃ es' ch' l', σ = ⟨l', sto ++ [.dict (ikv (bE es'))]⟩ ∧ Sub [("subset", nI s), ("changed", .bool ch'), ("best", .ref sto.length), ("table", tabV mv), ("first", nI f0)] l' ∧ BI mv f0 es' ∧ ((es' = es ∧ ch' = ch ∧ clo mv es s b) ∨ (ch' = true ∧ meas es' < meas es ∧ ∃ d, (s, d) ∈ es')) := by
  have hs16 := B.key_lt mv f0 hm h0 _ hs
  have hc1 := (B.ok _ hs).1
  have hln := B.len mv f0 hm h0
  have hnd := bE_nodup B.nd
  dsimp only at hs16 hc1
  have cell : (sto ++ [MO.dict (ikv (bE es))])[sto.length]? = some (.dict (ikv (bE es))) := by simp
  show Exs _ (_ :: _) _ _
  repeat walk_at "ev"
  refine Sub_dic cell hnd (bE_find B.nd hs) ?_
  repeat walk_at "ev"
  refine Sub_tup (show 2 < 2 ^ 60 by decide) (v := nI c.log2) (by rfl) ?_
  repeat walk_at "ev"
  refine Sub_dic cell hnd (bE_find B.nd hs) ?_
  repeat walk_at "ev"
  refine Sub_tup (show 2 < 2 ^ 60 by decide) (v := nI (c - 2 ^ c.log2)) (by rfl) ?_
  refine Bin_mul (left64 (by decide) (by decide)) ?_
  repeat walk_at "ev"
  rw [pr_off hc1 hb]
  refine Sub_list (vs := (List.range 16).map (pairV mv)) (.inl rfl) (by simp) (tab_at hs16) ?_
  repeat walk_at "ev"
  refine Sub_list (vs := [nI (img mv s 0), nI (img mv s 1)]) (.inl rfl) (show 2 < 2 ^ 60 by decide) (v := nI (img mv s b)) (by rcases (by omega : b = 0 ∨ b = 1) with rfl | rfl <;> rfl) ?_
  refine Then_next ?_
  dsimp only
  refine Exs_cons (Ex_if (Tst_cut (P := fun t σ => (t = true → ∀ c', (img mv s b, c') ∈ es → 2 * c + b < c') ∧ (t = false → clo mv es s b) ∧ σ = ⟨[("image", nI (img mv s b)), ("offer", prV (2 * c + b)), ("letter", nI b), ("subset", nI s), ("changed", .bool ch), ("best", .ref sto.length), ("table", tabV mv), ("first", nI f0)], sto ++ [.dict (ikv (bE es))]⟩) ?_ ?_))
  · repeat walk_at "ev"
    refine Cmp_nin_dic cell hnd ?_
    rw [bE_any]
    repeat walk_at "ev"
    refine ite_of (fun e => ?_) (fun e => ?_)
    · refine ⟨fun _ c' hc' => ?_, fun e => (nomatch e), by first | trivial | rfl⟩
      rw [any_key.mpr ⟨c', hc'⟩] at e; cases e
    · obtain ⟨d, hd⟩ : ∃ d, (img mv s b, d) ∈ es := any_key.mp (by simpa using e)
      have hd1 := (B.ok _ hd).1
      dsimp only at hd1
      repeat walk_at "ev"
      refine Sub_dic cell hnd (bE_find B.nd hd) ?_
      refine Cmp_lt_tup2 ?_
      rw [pr_lt (by omega) hd1]
      repeat walk_at "ev"
      refine ite_of (fun e2 => ?_) (fun e2 => ?_)
      · have e2 := of_decide_eq_true e2
        refine ⟨fun _ c' hc' => ?_, fun e => (nomatch e), by first | trivial | rfl⟩
        rw [key_one B.nd hc' hd]; exact e2
      · have e2 := of_decide_eq_false e2
        refine All_nil ?_
        refine ⟨fun e => absurd e (by decide), fun _ c' hc' => ?_, by first | trivial | rfl⟩
        have := key_one B.nd hc' hs
        exact ⟨d, hd, by omega⟩
  · rintro t σ ⟨h1, h2, rfl⟩
    refine ite_of (fun e => ?_) (fun e => ?_)
    · obtain ⟨q1, q2⟩ := B.step mv f0 hm h0 hs hb (h1 e)
      show Exs _ (_ :: _) _ _
      refine Exs_cons (Ex_asgS (by rfl) ?_)
      repeat walk_at "ev"
      refine Set_dict cell hnd (by unfold bE; rw [List.length_map]; omega) ?_
      rw [bE_put, show (sto ++ [MO.dict (ikv (bE es))]).set sto.length (.dict (ikv (bE (nput es (img mv s b) (2 * c + b))))) = sto ++ [.dict (ikv (bE (nput es (img mv s b) (2 * c + b))))] by simp]
      repeat walk_at "ev"
      exact ⟨rfl, _, true, _, rfl, .cons rfl (.cons rfl (.cons rfl (.cons rfl (.cons rfl .nil)))), q1, .inr ⟨rfl, q2, nput_key ⟨c, hs⟩⟩⟩
    · repeat walk_at "ev"
      exact ⟨rfl, es, ch, _, rfl, .cons rfl (.cons rfl (.cons rfl (.cons rfl (.cons rfl .nil)))), B, .inl ⟨rfl, rfl, h2 e⟩⟩
/-- what the book of least words tells in the end -/
def Done1 (mv : Nat → Nat) (f0 : Nat) (es : List (Nat × Nat)) : Prop := BI mv f0 es ∧ ∀ s b, (∃ c, (s, c) ∈ es) → b < 2 → clo mv es s b
theorem lea_walk {mv : Nat → Nat} {f0 : Nat} (hm : ∀ k, mv k < 16) (h0 : f0 < 16) (sto : List MO) :
    Exs (cx G 8 0) (bodyAt 8) ⟨[("first", nI f0), ("table", tabV mv)], sto⟩ fun fl σ => fl.val = .ref sto.length ∧ ∃ es, Done1 mv f0 es ∧ σ.sto = sto ++ [.dict (ikv (bE es))] := by
  show Exs _ (_ :: _) _ _
  repeat walk_at "ev"
  refine Ev_dctD (fun _ => rfl) (by rfl) (by rfl) ?_
  refine EvPs_cons (Ev_name (v := nI f0) rfl (by rfl) ⟨.inl (f0 : Int), rfl, ?_⟩)
  repeat walk_at "ev"
  refine EvPs_nil ?_
  refine ⟨by simp, by simp, ?_⟩
  dsimp only
  rw [show (sto ++ [MO.dict []]).set sto.length (.dict (mkv [(.inl (f0 : Int), V.tup [.int 0, .int 0])])) = sto ++ [.dict (ikv (bE [(f0, 1)]))] by simp; rfl]
  repeat walk_at "ev"
  refine Ex_while (fun n σ => ∃ es ch l', σ = ⟨l', sto ++ [.dict (ikv (bE es))]⟩ ∧ Sub [("changed", .bool ch), ("best", .ref sto.length), ("table", tabV mv), ("first", nI f0)] l' ∧ BI mv f0 es ∧ (ch = false → Done1 mv f0 es) ∧ n = meas es + (if ch then 1 else 0)) (meas [(f0, 1)] + 1) ⟨[("changed", .bool true), ("best", .ref sto.length), ("table", tabV mv), ("first", nI f0)], .cons rfl (.cons rfl (.cons rfl (.cons rfl .nil))), [(f0, 1)], true, _, rfl, .cons rfl (.cons rfl (.cons rfl (.cons rfl .nil))), BI_init mv f0, (fun h => by cases h), rfl⟩ ?_
  rintro n σ' ⟨es, ch, l', rfl, hsub, B, hd, rfl⟩
  refine DoG.sub (l' := [("changed", .bool ch), ("best", .ref sto.length), ("table", tabV mv), ("first", nI f0)]) ?_ hsub
  clear hsub
  show Tst _ _ _ _
  refine Tst_val (fun _ => rfl) ?_
  repeat walk_at "ev"
  refine ite_of (fun e => ?_) (fun e => ?_)
  · subst e
    show Exs _ (_ :: _) _ _
    repeat walk_at "ev"
    refine Ex_for (fun k σ => ∃ es' ch' l', σ = ⟨l', sto ++ [.dict (ikv (bE es'))]⟩ ∧ Sub [("changed", .bool ch'), ("best", .ref sto.length), ("table", tabV mv), ("first", nI f0)] l' ∧ BI mv f0 es' ∧ (ch' = true → meas es' < meas es) ∧ (ch' = false → es' = es ∧ ∀ s b, s < k → b < 2 → clo mv es s b)) (fun _ _ => rfl) ?_
    repeat walk_at "ev"
    refine Ev_boot H.nrange c_range (by rfl) ⟨_, rfl, Kp_type, ?_⟩
    repeat walk_at "ev"
    refine Call_range1 ?_
    refine ⟨_, Src_up (n := 16) (by decide) (by decide) (by decide), ⟨es, false, _, rfl, .cons rfl (.cons rfl (.cons rfl (.cons rfl .nil))), B, (fun h => by cases h), fun _ => ⟨rfl, fun s b h => absurd h (Nat.not_lt_zero _)⟩⟩, ?_, ?_⟩
    · rintro k v σ' hv ⟨es', ch', l', rfl, hsub, B', g1, g2⟩
      obtain ⟨hk, rfl⟩ := v_is1 _ _ _ hv
      rw [show (0 : Int) + (k : Int) = (k : Int) by omega]
      refine Asg_sub hsub ?_
      clear hsub hv
      repeat walk_at "ev"
      refine Cmp_in_dic (es := bE es') (by simp) (bE_nodup B'.nd) ?_
      rw [bE_any]
      repeat walk_at "ev"
      refine ite_of (fun e => ?_) (fun e => ?_)
      · obtain ⟨c0, hc0⟩ := any_key.mp e
        show Exs _ (_ :: _) _ _
        refine Exs_cons (Ex_for (fun m σ => m ≤ 2 ∧ ∃ es' ch' l', σ = ⟨l', sto ++ [.dict (ikv (bE es'))]⟩ ∧ Sub [("subset", nI k), ("changed", .bool ch'), ("best", .ref sto.length), ("table", tabV mv), ("first", nI f0)] l' ∧ BI mv f0 es' ∧ (∃ d, (k, d) ∈ es') ∧ (ch' = true → meas es' < meas es) ∧ (ch' = false → es' = es ∧ (∀ s b, s < k → b < 2 → clo mv es s b) ∧ ∀ b, b < m → clo mv es k b)) (fun _ _ => rfl) ?_)
        repeat walk_at "ev"
        refine ⟨_, .tup _, ⟨by decide, es', ch', _, rfl, .cons rfl (.cons rfl (.cons rfl (.cons rfl (.cons rfl .nil)))), B', ⟨c0, hc0⟩, g1, fun h => ⟨(g2 h).1, (g2 h).2, fun b h => absurd h (Nat.not_lt_zero _)⟩⟩, ?_, ?_⟩
        · rintro m v σ' hv ⟨-, es', ch', l', rfl, hsub, B', ⟨d, hd⟩, g1, g2⟩
          have hm2 : m < 2 := (List.getElem?_eq_some_iff.mp hv).1
          obtain rfl : v = nI m := by
            rcases (by omega : m = 0 ∨ m = 1) with rfl | rfl <;> (injection hv with hv; exact hv.symm)
          refine Asg_sub hsub ?_
          clear hsub hv
          refine Asg_name (Ok.of (by rfl)) ?_
          show Exs _ letterBody _ _
          refine Exs_mono (lea_letter H hm h0 B' hd hm2 (ch := ch') (sto := sto)) ?_
          rintro fl σ ⟨rfl, es2, ch2, l2, rfl, hsub2, B2, h2⟩
          refine ⟨[("subset", nI k), ("changed", .bool ch2), ("best", .ref sto.length), ("table", tabV mv), ("first", nI f0)], hsub2, by omega, es2, ch2, _, rfl, .cons rfl (.cons rfl (.cons rfl (.cons rfl (.cons rfl .nil)))), B2, ?_, ?_, ?_⟩
          · rcases h2 with ⟨rfl, -, -⟩ | ⟨-, -, h⟩
            · exact ⟨d, hd⟩
            · exact h
          · rintro rfl
            rcases h2 with ⟨rfl, e, -⟩ | ⟨-, h, -⟩
            · exact g1 e.symm
            · cases ch' with
              | true => have := g1 rfl; omega
              | false => rw [(g2 rfl).1] at h; exact h
          · rintro rfl
            rcases h2 with ⟨rfl, e, hcl⟩ | ⟨h, -, -⟩
            · obtain ⟨q1, q2, q3⟩ := g2 e.symm
              refine ⟨q1, q2, fun b hb => ?_⟩
              by_cases hbm : b = m
              · subst hbm; rw [← q1]; exact hcl
              · exact q3 b (by omega)
            · cases h
        · rintro σ' ⟨-, es', ch', l', rfl, hsub, B', -, g1, g2⟩
          refine Exs_nil (Then_next (Exs_nil (Then_next (Exs_nil ?_))))
          refine ⟨[("changed", .bool ch'), ("best", .ref sto.length), ("table", tabV mv), ("first", nI f0)], fun p hp => hsub p (.tail _ hp), es', ch', _, rfl, .cons rfl (.cons rfl (.cons rfl (.cons rfl .nil))), B', g1, fun h => ⟨(g2 h).1, fun s b hs hb => ?_⟩⟩
          obtain ⟨q1, q2, q3⟩ := g2 h
          by_cases hsk : s = k
          · subst hsk; exact q3 b hb
          · exact q2 s b (by omega) hb
      · refine Exs_nil (Then_next (Exs_nil ⟨[("changed", .bool ch'), ("best", .ref sto.length), ("table", tabV mv), ("first", nI f0)], .cons rfl (.cons rfl (.cons rfl (.cons rfl .nil))), es', ch', _, rfl, .cons rfl (.cons rfl (.cons rfl (.cons rfl .nil))), B', g1, fun h => ⟨(g2 h).1, fun s b hs hb => ?_⟩⟩))
        by_cases hsk : s = k
        · subst hsk
          intro c hc
          rw [← (g2 h).1] at hc
          rw [any_key.mpr ⟨c, hc⟩] at e; cases e
        · exact (g2 h).2 s b (by omega) hb
    · rintro σ' ⟨es', ch', l', rfl, hsub, B', g1, g2⟩
      rw [List.length_map, List.length_range] at g2
      refine Exs_nil (Then_next (Exs_nil ⟨[("changed", .bool ch'), ("best", .ref sto.length), ("table", tabV mv), ("first", nI f0)], hsub, _, ?_, es', ch', _, rfl, .cons rfl (.cons rfl (.cons rfl (.cons rfl .nil))), B', fun h => ⟨B', fun s b hs hb => ?_⟩, rfl⟩))
      · cases ch' with
        | true => have := g1 rfl; simp only [if_true]; omega
        | false => rw [(g2 rfl).1]; simp
      · obtain ⟨q1, q2⟩ := g2 h
        obtain ⟨c, hc⟩ := hs
        rw [q1]
        exact q2 s b (B'.key_lt mv f0 hm h0 _ hc) hb
  · subst e
    refine Exs_nil (Then_next ?_)
    show Exs _ (_ :: _) _ _
    repeat walk_at "ev"
    exact ⟨rfl, es, hd rfl, rfl⟩
end
theorem bE_lo (k : Nat) : ∀ es : List (Nat × Nat), dlos k (ikv (bE es)) = true
  | [] => rfl
  | p :: es => by
    show ((prV p.2).lo k && dlos k (ikv (bE es))) = true
    rw [bE_lo k es]; rfl
section
variable {G : Gl} {ar am ow ad at_ au al an aw : Addr} (H : Gs1 G ar am ow ad at_ au al an aw)
include H
theorem lea_spec {mv : Nat → Nat} {f0 : Nat} (hm : ∀ k, mv k < 16) (h0 : f0 < 16) {sto : List MO} (hs : Clo sto) : Calls G 1 (.ref al) [tabV mv, nI f0] sto fun v s => (∃ es, Done1 mv f0 es ∧ v = .dct (ikv (bE es))) ∧ s = sto := by
  refine Calls_trim (Q' := fun v s => v = .ref sto.length ∧ ∃ es, Done1 mv f0 es ∧ s = sto ++ [.dict (ikv (bE es))]) ?_ fun v s ⟨h1, es, h2, h3⟩ => ⟨.dct (ikv (bE es)), sto, ?_, ⟨es, h2, rfl⟩, rfl⟩
  · refine fn_calls H.lea [("table", tabV mv), ("first", nI f0)] (fun nm kV doc pm an cd ct w W xs hx => ?_) (by rfl) (lea_walk H hm h0 sto)
    obtain ⟨x, y, rfl, r1, r2⟩ := two_of hx
    exact ⟨_, .cons r1 (.cons r2 .nil), rfl⟩
  · rw [h1, h3]
    refine ⟨.newd (Nat.le_refl _) (by simp) (DRess.lo _ (bE_lo _ es)), rfl, by simp, fun i m m' hi e e' => ?_⟩
    rw [List.getElem?_append_left hi, e'] at e
    cases e
    exact MO.res (hs _ (List.mem_of_getElem? e'))
end
def codeOf (es : List (Nat × Nat)) (s : Nat) : Nat := match es.find? (fun p => p.1 = s) with
  | some p => p.2
  | none => 0
theorem codeOf_eq {es : List (Nat × Nat)} (hn : (es.map (·.1)).Nodup) {p : Nat × Nat} (h : p ∈ es) : codeOf es p.1 = p.2 := by
  unfold codeOf
  cases hf : es.find? (fun q => q.1 = p.1) with
  | none => exact absurd (List.find?_eq_none.mp hf p h) (by simp)
  | some q =>
    have h1 := List.mem_of_find?_eq_some hf
    have h2 : q.1 = p.1 := by simpa using List.find?_some hf
    exact key_one hn (t := p.1) (by rw [← h2]; exact h1) h
def trip (s c : Nat) : Int × Int × Int := ((c.log2 : Int), ((c - 2 ^ c.log2 : Nat) : Int), (s : Int))
def trips (es : List (Nat × Nat)) : List (Int × Int × Int) := es.map fun p => trip p.1 p.2
def tripF (es : List (Nat × Nat)) : V → V
  | .int i => trV (trip i.toNat (codeOf es i.toNat))
  | v => v
theorem trips_eq {es : List (Nat × Nat)} (hn : (es.map (·.1)).Nodup) : ((bE es).map fun p => V.int p.1).map (tripF es) = (trips es).map trV := by
  unfold bE trips
  rw [List.map_map, List.map_map, List.map_map]
  refine List.map_congr_left fun p hp => ?_
  show trV (trip (p.1 : Int).toNat (codeOf es (p.1 : Int).toNat)) = trV (trip p.1 p.2)
  rw [Int.toNat_natCast, codeOf_eq hn hp]
def thirdF : V → V
  | .tup [_, _, z] => z
  | v => v
theorem trips_get (es : List (Nat × Nat)) {i : Nat} (hi : i < es.length) : (trips es).getD i (0, 0, 0) = trip (es.getD i (0, 0)).1 (es.getD i (0, 0)).2 := by
  unfold trips
  rw [List.getD_eq_getElem?_getD, List.getD_eq_getElem?_getD, List.getElem?_map, List.getElem?_eq_getElem hi]; rfl
theorem trips_lt {mv : Nat → Nat} {f0 : Nat} {es : List (Nat × Nat)} (B : BI mv f0 es) (i j : Nat) (hi : i < (trips es).length) (hj : j < (trips es).length) : tlt ((trips es).getD i (0, 0, 0)) ((trips es).getD j (0, 0, 0)) ↔ (es.getD i (0, 0)).2 < (es.getD j (0, 0)).2 := by
  unfold trips at hi hj
  rw [List.length_map] at hi hj
  rw [trips_get es hi, trips_get es hj]
  have mem : ∀ k, k < es.length → es.getD k (0, 0) ∈ es := fun k hk => by
    rw [List.getD_eq_getElem?_getD, List.getElem?_eq_getElem hk]; exact List.getElem_mem hk
  have := log_lt (B.ok _ (mem i hi)).1 (B.ok _ (mem j hj)).1
  rw [← this]
  unfold tlt trip
  dsimp only
  constructor
  · rintro (h | ⟨h, k⟩)
    · exact .inl (by omega)
    · exact .inr ⟨by omega, by omega⟩
  · rintro (h | ⟨h, k⟩)
    · exact .inl (by omega)
    · exact .inr ⟨by omega, by omega⟩
theorem codes_ne {mv : Nat → Nat} {f0 : Nat} {es : List (Nat × Nat)} (B : BI mv f0 es) (i j : Nat) (hi : i < (trips es).length) (hj : j < (trips es).length) (hne : i ≠ j) : (es.getD i (0, 0)).2 ≠ (es.getD j (0, 0)).2 := by
  unfold trips at hi hj
  rw [List.length_map] at hi hj
  have e : ∀ k (hk : k < es.length), es.getD k (0, 0) = es[k] := fun k hk => by rw [List.getD_eq_getElem?_getD, List.getElem?_eq_getElem hk]; rfl
  rw [e i hi, e j hj]
  intro h
  have o1 := (B.ok _ (List.getElem_mem hi)).2
  have o2 := (B.ok _ (List.getElem_mem hj)).2
  rw [h] at o1
  have hk : (es.map (·.1))[i]'(by simpa using hi) = (es.map (·.1))[j]'(by simpa using hj) := by
    simp only [List.getElem_map]
    exact o1.symm.trans o2
  exact hne ((List.getElem_inj B.nd).mp hk)
theorem due_eq {mv : Nat → Nat} {f0 : Nat} (hm : ∀ k, mv k < 16) (h0 : f0 < 16) {es : List (Nat × Nat)} (D : Done1 mv f0 es) {q : Array Nat} (hq : OrdP (trips es).length q) (hs : SrtP (fun i => (es.getD i (0, 0)).2) q (trips es).length) :
    ((q.toList.map fun i => trV ((trips es).getD i (0, 0, 0))).map thirdF) = (DD mv f0).map nI := by
  have hlen : (trips es).length = es.length := by unfold trips; rw [List.length_map]
  rw [hlen] at hq hs
  have hsz := hq.size
  have hlt : ∀ i ∈ q.toList, i < es.length := fun i hi => List.mem_range.mp (hq.mem_iff.mp hi)
  have e : ∀ k (hk : k < es.length), es.getD k (0, 0) = es[k] := fun k hk => by rw [List.getD_eq_getElem?_getD, List.getElem?_eq_getElem hk]; rfl
  have hcs : (q.toList.map fun i => (es.getD i (0, 0)).2) = CC mv f0 := by
    refine sorted_ext ?_ (CC_sorted mv f0) fun x => ?_
    · rw [List.pairwise_map, List.pairwise_iff_getElem]
      intro i j hi hj hij
      have hi' : i < es.length := by rw [Array.length_toList] at hi; omega
      have hj' : j < es.length := by rw [Array.length_toList] at hj; omega
      have := hs i j hij hj'
      have g : ∀ k (hk : k < q.toList.length), q.getD k 0 = q.toList[k] := fun k hk => by
        rw [Array.length_toList] at hk; simp [Array.getD, hk]
      rw [g i hi, g j hj] at this
      exact this
    · rw [List.mem_map, mem_CC mv f0 hm h0]
      constructor
      · rintro ⟨i, hi, rfl⟩
        have hil := hlt i hi
        rw [e i hil]
        exact ((best_iff mv f0 D.1 D.2 _ _).mp (show (es[i].1, es[i].2) ∈ es from List.getElem_mem (hlt i hi))).1
      · intro hx
        have := (best_iff mv f0 D.1 D.2 (R mv f0 x) x).mpr ⟨hx, rfl⟩
        obtain ⟨i, hi, ei⟩ := List.mem_iff_getElem.mp this
        exact ⟨i, hq.mem_iff.mpr (List.mem_range.mpr hi), by rw [e i hi, ei]⟩
  unfold DD
  rw [← hcs, List.map_map, List.map_map, List.map_map]
  refine List.map_congr_left fun i hi => ?_
  have hil := hlt i hi
  show V.int ((trips es).getD i (0, 0, 0)).2.2 = nI (R mv f0 (es.getD i (0, 0)).2)
  rw [trips_get es hil, e i hil, (D.1.ok _ (List.getElem_mem hil)).2]
  rfl
def rowT (mv : Nat → Nat) (f0 o t : Nat) : V := .lst [nI (pos mv f0 (img mv t 0) + o), nI (pos mv f0 (img mv t 1) + o)]
theorem rows_all {mv : Nat → Nat} {f0 : Nat} (hm : ∀ k, mv k < 16) (h0 : f0 < 16) (o : Nat) : rowsL mv f0 o (CC mv f0).length = (DD mv f0).map (rowT mv f0 o) := by
  unfold rowsL DD
  rw [List.take_length, List.map_map]
  refine List.map_congr_left fun c hc => ?_
  have h1 := ((mem_CC mv f0 hm h0).mp hc).1
  have e0 := R_two mv f0 c 0 h1 (by decide)
  rw [Nat.add_zero] at e0
  show rowV mv f0 o c = rowT mv f0 o (R mv f0 c)
  unfold rowV rowT
  rw [e0, R_two mv f0 c 1 h1 (by decide)]
theorem pos_f0 {mv : Nat → Nat} {f0 : Nat} : pos mv f0 f0 = 0 := by
  have h := C_zero mv f0
  unfold pos DD
  cases hc : CC mv f0 with
  | nil => rw [hc] at h; cases h
  | cons a l =>
    rw [hc] at h
    cases h
    rw [List.map_cons, R_one, List.idxOf_cons_self]
theorem reduce_pureS {G : Gl} {a m : Addr} {n : Nat} {f : Value} {vs : List V} {acc : Nat → V} {sto : List MO} (R : RFn G a m) (hk : Kp G f) (h0 : NotCon (acc 0) = true) (hp : (acc vs.length).lo sto.length = true) (hs : Clo sto)
    (hstep : ∀ k el x, vs[k]? = some el → Calls G n f [acc k, el] (sto ++ [x]) fun r s' => r = acc (k + 1) ∧ s' = sto ++ [x]) : Calls G (n + 1) (.ref a) [.con f, .lst vs, acc 0] sto fun r s => r = acc vs.length ∧ s = sto := by
  refine Calls_trim (Q' := fun r s => r = acc vs.length ∧ s = sto ++ [.junk]) (red_bind3 R (reduce_list (vs := vs) R.miss hk (Nat.le_refl n) (.inl rfl) (Q := fun r s => r = acc vs.length ∧ s = sto ++ [.junk])
    (J := fun k v s => v = acc k ∧ k ≤ vs.length ∧ s = sto ++ [.iter (.lst vs) k]) (meas := fun k _ => vs.length - k) ?_ (.inl ⟨h0, rfl, Nat.zero_le _, rfl⟩))) ?_
  · rintro k v s ⟨rfl, hkl, rfl⟩
    refine ⟨by simp, vs, .inl rfl, fun el hel => ?_, fun hl => ⟨by rw [show k = vs.length by omega], by simp⟩⟩
    have hb := (List.getElem?_eq_some_iff.mp hel).1
    rw [show (sto ++ [MO.iter (.lst vs) k]).set sto.length (.iter (.lst vs) (k + 1)) = sto ++ [.iter (.lst vs) (k + 1)] by simp]
    refine (hstep k el _ hel).mono fun r s' ⟨h1, h2⟩ => ⟨⟨h1, hb, h2⟩, by dsimp only; omega⟩
  · rintro v s ⟨rfl, rfl⟩
    exact ⟨_, sto, trim_all (by simp) (by simp) hp fun o ho => MO.res (hs o ho), rfl, rfl⟩
def nexV (mv : Nat → Nat) : V := .lst ((List.range 8).map fun k => nsV (dig (mv k)))
theorem nex_at {mv : Nat → Nat} {k : Nat} (h : k < 8) : itemAt ((List.range 8).map fun k => nsV (dig (mv k))) (k : Int) = some (nsV (dig (mv k))) := by
  unfold itemAt
  rw [if_pos (by omega), Int.toNat_natCast, List.getElem?_map, List.getElem?_range h]; rfl
theorem add_len : ∀ (l told : List Nat), (l.foldl addN told).length ≤ told.length + l.length
  | [], _ => Nat.le_refl _
  | x :: l, told => by
    rw [List.foldl_cons, List.length_cons]
    have := add_len l (addN told x)
    have h2 : (addN told x).length ≤ told.length + 1 := by
      unfold addN
      split
      · omega
      · rw [List.length_append, List.length_singleton]; omega
    omega
theorem nI_inj {a b : Nat} (h : nI a = nI b) : a = b := by injection h with h; omega
theorem mem_nI {x : Nat} {l : List Nat} : nI x ∈ l.map nI ↔ x ∈ l := by
  rw [List.mem_map]
  constructor
  · rintro ⟨y, hy, e⟩; rw [← nI_inj e]; exact hy
  · exact fun h => ⟨x, h, rfl⟩
theorem nI_ok (n : Nat) (l : List Nat) : (V.lst (l.map nI)).ok (n + 1) = true := by
  show (l.map nI).all (V.ok n) = true
  rw [List.all_eq_true]
  intro v hv
  obtain ⟨i, -, rfl⟩ := List.mem_map.mp hv
  cases n <;> rfl
section
variable {G : Gl} {ar am ow ad at_ au al an aw : Addr} (H : Gs1 G ar am ow ad at_ au al an aw)
include H
theorem nex_spec {mv : Nat → Nat} {here : List Nat} {b : Nat} (hh : ∀ p ∈ here, p < 4) (hl : here.length ≤ 4) (hb : b < 2) {sto : List MO} (hs : Clo sto) : Calls G 1 (.ref an) [nsV here, nI b, nexV mv] sto fun v s => v = nsV (nxt (fun k => dig (mv k)) here b) ∧ s = sto := by
  refine Calls_trim (Q' := fun v s => v = .ref sto.length ∧ s = sto ++ [.list ((nxt (fun k => dig (mv k)) here b).map nI)]) ?_ fun v s ⟨h1, h2⟩ => ⟨_, sto, ?_, rfl, rfl⟩
  · refine fn_calls H.nex [("here", nsV here), ("letter", nI b), ("nexts", nexV mv)] (fun nm kV doc pm an cd ct w W xs hx => ?_) (by rfl) ?_
    · obtain ⟨x, y, z, rfl, r1, r2, r3⟩ := three_of hx
      exact ⟨_, .cons r1 (.cons r2 (.cons r3 .nil)), rfl⟩
    · show Exs _ (_ :: _) _ _
      repeat walk_at "ev"
      refine Ev_lstC (by decide) ?_
      repeat walk_at "ev"
      refine Ex_for (fun k σ => ∃ (told : List Nat) (l' : List (Str × V)), σ = ⟨l', sto ++ [.list (told.map nI)]⟩ ∧ told = (here.take k).foldl (fun told p => (dig (mv (2 * p + b))).foldl addN told) [] ∧ told.length ≤ 4 * k ∧ Sub [("told", .ref sto.length), ("nexts", nexV mv), ("letter", nI b)] l') (fun _ _ => rfl) ?_
      repeat walk_at "ev"
      refine ⟨_, .lst _, ⟨[], _, rfl, rfl, Nat.zero_le _, .cons rfl (.cons rfl (.cons rfl .nil))⟩, ?_, ?_⟩
      · rintro k v σ' hv ⟨told, l', rfl, ht, htl, hsub⟩
        obtain ⟨p, hkp, rfl⟩ : ∃ p, here[k]? = some p ∧ v = nI p := by
          rw [List.getElem?_map] at hv
          cases hp : here[k]? with
          | none => rw [hp] at hv; cases hv
          | some p => rw [hp] at hv; cases hv; exact ⟨p, rfl, rfl⟩
        have hp4 := hh p (List.mem_of_getElem? hkp)
        have hk4 := (List.getElem?_eq_some_iff.mp hkp).1
        have hdl := dig_len (mv (2 * p + b))
        refine Asg_sub hsub ?_
        clear hsub hv
        repeat walk_at "ev"
        refine Ex_for (fun m σ => ∃ l', σ = ⟨l', sto ++ [.list ((((dig (mv (2 * p + b))).take m).foldl addN told).map nI)]⟩ ∧ Sub [("told", .ref sto.length), ("nexts", nexV mv), ("letter", nI b)] l') (fun _ _ => rfl) ?_
        repeat walk_at "ev"
        refine Bin_mul (left64 (by decide) (by decide)) ?_
        repeat walk_at "ev"
        refine Sub_list (.inl rfl) (by simp) (show itemAt ((List.range 8).map fun k => nsV (dig (mv k))) _ = some (nsV (dig (mv (2 * p + b)))) from ?_) ?_
        · rw [← nex_at (show 2 * p + b < 8 by omega)]; congr 1
        refine ⟨_, .lst _, ⟨_, rfl, .cons rfl (.cons rfl (.cons rfl .nil))⟩, ?_, ?_⟩
        · rintro m v σ' hv ⟨l', rfl, hsub⟩
          obtain ⟨o, hmo, rfl⟩ : ∃ o, (dig (mv (2 * p + b)))[m]? = some o ∧ v = nI o := by
            rw [List.getElem?_map] at hv
            cases hp : (dig (mv (2 * p + b)))[m]? with
            | none => rw [hp] at hv; cases hv
            | some p => rw [hp] at hv; cases hv; exact ⟨p, rfl, rfl⟩
          have hm4 := (List.getElem?_eq_some_iff.mp hmo).1
          have hal := add_len ((dig (mv (2 * p + b))).take m) told
          rw [List.length_take] at hal
          have hnext : ((dig (mv (2 * p + b))).take (m + 1)).foldl addN told = addN (((dig (mv (2 * p + b))).take m).foldl addN told) o := by
            rw [List.take_add_one, hmo, List.foldl_append]; rfl
          rw [hnext]
          generalize ((dig (mv (2 * p + b))).take m).foldl addN told = td at hal
          refine Asg_sub hsub ?_
          clear hsub hv
          repeat walk_at "ev"
          refine Cmp_notIn (Rd.data rfl) (.inr ⟨sto.length, td.map nI, rfl, by simp, rfl, nI_ok 7 td⟩) fun r hr => ?_
          repeat walk_at "ev"
          refine ite_of (fun e => ?_) (fun e => ?_)
          · have hnin : o ∉ td := fun h => (hr.mp e) (mem_nI.mpr h)
            show Exs _ (_ :: _) _ _
            refine Exs_cons (Ex_expr (by rfl) (by rfl) ?_)
            refine Ev_meth (fun _ => rfl) (by decide) (by rfl) (by rfl) PySem.F.slot_list_append PySem.F.type_list_append ?_
            repeat walk_at "ev"
            refine ⟨⟨sto.length, td.map nI, rfl, by simp⟩, ?_⟩
            repeat walk_at "ev"
            refine Call_append (vs := td.map nI) (by simp) (by rw [List.length_map]; omega) ?_
            refine Then_next (Exs_nil (Then_next (Exs_nil ⟨[("told", .ref sto.length), ("nexts", nexV mv), ("letter", nI b)], .cons rfl (.cons rfl (.cons rfl .nil)), [("told", .ref sto.length), ("nexts", nexV mv), ("letter", nI b)], ?_, .cons rfl (.cons rfl (.cons rfl .nil))⟩)))
            rw [show addN td o = td ++ [o] from if_neg hnin]
            simp
          · have hin : o ∈ td := by
              apply Classical.byContradiction
              intro h
              rw [hr.mpr (fun k => h (mem_nI.mp k))] at e; cases e
            refine Exs_nil (Then_next (Exs_nil ⟨[("told", .ref sto.length), ("nexts", nexV mv), ("letter", nI b)], .cons rfl (.cons rfl (.cons rfl .nil)), [("told", .ref sto.length), ("nexts", nexV mv), ("letter", nI b)], ?_, .cons rfl (.cons rfl (.cons rfl .nil))⟩))
            rw [show addN td o = td from if_pos hin]
        · rintro σ' ⟨l', rfl, hsub⟩
          rw [List.length_map, List.take_length]
          have hal := add_len (dig (mv (2 * p + b))) told
          refine Exs_nil (Then_next (Exs_nil ⟨[("told", .ref sto.length), ("nexts", nexV mv), ("letter", nI b)], hsub, _, _, rfl, ?_, by omega, .cons rfl (.cons rfl (.cons rfl .nil))⟩))
          rw [List.take_add_one, hkp, List.foldl_append, ← ht]; rfl
      · rintro σ' ⟨told, l', rfl, ht, -, hsub⟩
        rw [List.length_map, List.take_length] at ht
        refine Exs_nil (Then_next (Exs_sub hsub ?_))
        show Exs _ (_ :: _) _ _
        repeat walk_at "ev"
        exact ⟨rfl, by rw [ht]; rfl⟩
  · rw [h1, h2]
    refine ⟨.new (Nat.le_refl _) (by simp) (Ress.lo _ (los_nI _ _)), rfl, by simp, fun i m m' hi e e' => ?_⟩
    rw [List.getElem?_append_left hi, e'] at e
    cases e
    exact MO.res (hs _ (List.mem_of_getElem? e'))
theorem wal_spec {p rw_ b : Nat} {rows : List V} {x y : Nat} {sto : List MO} (hr : sto[rw_]? = some (.list rows)) (hz : rows.length ≤ 100) (hp : rows[p]? = some (.lst [nI x, nI y])) (hb : b < 2) : Calls G 1 (.ref aw) [.tup [nI p, .ref rw_], nI b] sto fun v s => v = .tup [nI (if b = 0 then x else y), .ref rw_] ∧ s = sto := by
  refine fn_calls H.wal [("pair", .tup [nI p, .ref rw_]), ("letter", nI b)] (fun nm kV doc pm an cd ct w W xs hx => ?_) (by rfl) ?_
  · obtain ⟨x, y, rfl, r1, r2⟩ := two_of hx
    exact ⟨_, .cons r1 (.cons r2 .nil), rfl⟩
  · show Exs _ (_ :: _) _ _
    repeat walk_at "ev"
    refine Sub_tup (show 2 < 2 ^ 60 by decide) (v := .ref rw_) (by rfl) ?_
    repeat walk_at "ev"
    refine Sub_tup (show 2 < 2 ^ 60 by decide) (v := nI p) (by rfl) ?_
    refine Sub_list (.inr ⟨rw_, rfl, hr⟩) (by omega) (show itemAt rows (p : Int) = some (.lst [nI x, nI y]) from ?_) ?_
    · unfold itemAt; rw [if_pos (by omega), Int.toNat_natCast]; exact hp
    repeat walk_at "ev"
    refine Sub_list (vs := [nI x, nI y]) (.inl rfl) (show 2 < 2 ^ 60 by decide) (v := nI (if b = 0 then x else y)) (by rcases (by omega : b = 0 ∨ b = 1) with rfl | rfl <;> rfl) ?_
    repeat walk_at "ev"
    refine Sub_tup (show 2 < 2 ^ 60 by decide) (v := .ref rw_) (by rfl) ?_
    repeat walk_at "ev"
    exact ⟨rfl, rfl⟩
theorem red_wal {mv : Nat → Nat} {f0 : Nat} (hm : ∀ k, mv k < 16) (h0 : f0 < 16) {n rw_ : Nat} (hn : 1 ≤ n) {sto : List MO} (hs : Clo sto) (hr : sto[rw_]? = some (.list ((DD mv f0).map (rowT mv f0 0)))) :
    Calls G 2 (.ref ar) [.con (.ref aw), nsV (WW n), .tup [nI 0, .ref rw_]] sto fun v s => v = .tup [nI (pos mv f0 (R mv f0 n)), .ref rw_] ∧ s = sto := by
  have hrl := (List.getElem?_eq_some_iff.mp hr).1
  have h := reduce_pureS (n := 1) (vs := (WW n).map nI) (acc := fun k => .tup [nI (pos mv f0 (((WW n).take k).foldl (img mv) f0)), .ref rw_]) (sto := sto) H.red H.kwal rfl (by simp [V.lo, los, hrl]) hs fun k el x hel => by
    obtain ⟨b, hkb, rfl⟩ : ∃ b, (WW n)[k]? = some b ∧ el = nI b := by
      rw [List.getElem?_map] at hel
      cases hp : (WW n)[k]? with
      | none => rw [hp] at hel; cases hel
      | some p => rw [hp] at hel; cases hel; exact ⟨p, rfl, rfl⟩
    have hb2 := (WW_run mv f0 n hn).2 b (List.mem_of_getElem? hkb)
    obtain ⟨m, hm1, hmR⟩ := run_R mv f0 ((WW n).take k) (fun c hc => (WW_run mv f0 n hn).2 c (List.mem_of_mem_take hc)) 1 (Nat.le_refl _)
    rw [R_one] at hmR
    have hin := mem_DD mv f0 hm h0 m hm1
    have hp := pos_get mv f0 hin
    have hnext : ((WW n).take (k + 1)).foldl (img mv) f0 = img mv (((WW n).take k).foldl (img mv) f0) b := by
      rw [List.take_add_one, hkb, List.foldl_append]; rfl
    have hdl := DD_len mv f0 hm h0
    have hw := wal_spec H (rw_ := rw_) (p := pos mv f0 (R mv f0 m)) (x := pos mv f0 (img mv (R mv f0 m) 0) + 0) (y := pos mv f0 (img mv (R mv f0 m) 1) + 0) (sto := sto ++ [x]) (three_more hr) (by rw [List.length_map]; omega) (by rw [List.getElem?_map, hp]; rfl) hb2
    rw [hnext, hmR]
    refine hw.mono fun v s h => ⟨?_, h.2⟩
    rw [h.1]
    rcases (by omega : b = 0 ∨ b = 1) with rfl | rfl <;> rfl
  have e0 : (V.tup [nI (pos mv f0 (((WW n).take 0).foldl (img mv) f0)), .ref rw_]) = .tup [nI 0, .ref rw_] := by
    rw [List.take_zero]
    show V.tup [nI (pos mv f0 f0), .ref rw_] = _
    rw [pos_f0]
  rw [e0] at h
  refine h.mono fun v s h => ⟨?_, h.2⟩
  rw [h.1, List.length_map, List.take_length, (WW_run mv f0 n hn).1]
end
def digF : V → V
  | .int i => nsV (dig i.toNat)
  | v => v
def wordsL (N : Nat) : List V := .none :: (List.range N).map fun i => nsV (WW (i + 1))
def heresL (mv : Nat → Nat) (f0 N : Nat) : List V := .none :: (List.range N).map fun i => nsV (HH mv f0 (i + 1))
theorem words_len (N : Nat) : (wordsL N).length = N + 1 := by unfold wordsL; simp
theorem heres_len (mv : Nat → Nat) (f0 N : Nat) : (heresL mv f0 N).length = N + 1 := by unfold heresL; simp
theorem words_at {N n : Nat} (h1 : 1 ≤ n) (h2 : n ≤ N) : itemAt (wordsL N) (n : Int) = some (nsV (WW n)) := by
  unfold itemAt wordsL
  obtain ⟨m, rfl⟩ : ∃ m, n = m + 1 := ⟨n - 1, by omega⟩
  rw [if_pos (by omega), Int.toNat_natCast, List.getElem?_cons_succ, List.getElem?_map, List.getElem?_range (by omega)]; rfl
theorem heres_at {mv : Nat → Nat} {f0 N n : Nat} (h1 : 1 ≤ n) (h2 : n ≤ N) : itemAt (heresL mv f0 N) (n : Int) = some (nsV (HH mv f0 n)) := by
  unfold itemAt heresL
  obtain ⟨m, rfl⟩ : ∃ m, n = m + 1 := ⟨n - 1, by omega⟩
  rw [if_pos (by omega), Int.toNat_natCast, List.getElem?_cons_succ, List.getElem?_map, List.getElem?_range (by omega)]; rfl
theorem words_succ (N : Nat) : wordsL N ++ [nsV (WW (N + 1))] = wordsL (N + 1) := by
  unfold wordsL; rw [List.range_succ, List.map_append]; rfl
theorem heres_succ (mv : Nat → Nat) (f0 N : Nat) : heresL mv f0 N ++ [nsV (HH mv f0 (N + 1))] = heresL mv f0 (N + 1) := by
  unfold heresL; rw [List.range_succ, List.map_append]; rfl
theorem words_lo (k N : Nat) : (MO.list (wordsL N)).lo k = true := by
  show (true && los k ((List.range N).map _)) = true
  rw [Bool.true_and, los_all]
  intro v hv
  obtain ⟨i, -, rfl⟩ := List.mem_map.mp hv
  exact los_nI _ _
theorem heres_lo (mv : Nat → Nat) (f0 k N : Nat) : (MO.list (heresL mv f0 N)).lo k = true := by
  show (true && los k ((List.range N).map _)) = true
  rw [Bool.true_and, los_all]
  intro v hv
  obtain ⟨i, -, rfl⟩ := List.mem_map.mp hv
  exact los_nI _ _
/-- the store of the last loops -/
def st3 (mv : Nat → Nat) (f0 : Nat) (S : List MO) (N M : Nat) : List MO := S ++ [.list (wordsL N)] ++ [.list (heresL mv f0 M)]
section
variable {mv : Nat → Nat} {f0 : Nat} {S : List MO} {N M : Nat}
theorem st3_w : (st3 mv f0 S N M)[S.length]? = some (.list (wordsL N)) := by unfold st3; simp
theorem st3_h : (st3 mv f0 S N M)[S.length + 1]? = some (.list (heresL mv f0 M)) := by unfold st3; simp
theorem st3_old {i : Nat} {m : MO} (h : S[i]? = some m) : (st3 mv f0 S N M)[i]? = some m := three_more (three_more h)
theorem st3_setw {N' : Nat} : (st3 mv f0 S N M).set S.length (.list (wordsL N')) = st3 mv f0 S N' M := by unfold st3; simp
theorem st3_seth {M' : Nat} : (st3 mv f0 S N M).set (S.length + 1) (.list (heresL mv f0 M')) = st3 mv f0 S N M' := by unfold st3; simp
theorem st3_clo (hS : Clo S) : Clo (st3 mv f0 S N M) := by
  unfold st3
  rw [List.append_assoc]
  refine hS.add fun m hm => ?_
  rcases List.mem_append.mp hm with h | h
  · rw [List.mem_singleton.mp h]; exact words_lo _ _
  · rw [List.mem_singleton.mp h]; exact heres_lo _ _ _ _
end
theorem half_n (k : Nat) : (2 + (k : Int)).fdiv 2 = ((((k + 2) / 2 : Nat)) : Int) := by
  rw [Int.fdiv_eq_ediv_of_nonneg _ (by decide)]; omega
theorem mod_n (k : Nat) : (2 + (k : Int)).fmod 2 = ((((k + 2) % 2 : Nat)) : Int) := by
  rw [Int.fmod_eq_emod_of_nonneg _ (by decide)]; omega
theorem nI_int (l : List Nat) : l.map nI = (l.map Int.ofNat).map V.int := by rw [List.map_map]; rfl
section
variable {G : Gl} {ar am ow ad at_ au al an aw : Addr} (H : Gs1 G ar am ow ad at_ au al an aw)
include H
theorem law1_f {mv : Nat → Nat} {f0 : Nat} (hm : ∀ k, mv k < 16) (h0 : f0 < 16) {S : List MO} {rw_ du : Nat} (hS : Clo S) (hrw : S[rw_]? = some (.list ((DD mv f0).map (rowT mv f0 0)))) (hdu : S[du]? = some (.list ((DD mv f0).map nI))) :
    Exs (cx G 11 20) ((bodyAt 11).drop 22) ⟨[("heres", .ref (S.length + 1)), ("words", .ref S.length), ("due", .ref du), ("rows", .ref rw_)], st3 mv f0 S 31 31⟩ fun fl σ => fl.val = .bool true := by
  have hcl := st3_clo (mv := mv) (f0 := f0) (N := 31) (M := 31) hS
  have hdl := DD_len mv f0 hm h0
  show Exs _ (_ :: _) _ _
  refine Exs_cons (Ex_for (fun k σ => ∃ l', σ = ⟨l', st3 mv f0 S 31 31⟩ ∧ Sub [("heres", .ref (S.length + 1)), ("words", .ref S.length), ("due", .ref du), ("rows", .ref rw_)] l') (fun _ _ => rfl) ?_)
  repeat walk_at "ev"
  refine Ev_boot H.nrange c_range (by rfl) ⟨_, rfl, Kp_type, ?_⟩
  repeat walk_at "ev"
  refine Call_range2 ?_
  refine ⟨_, Src_up (n := 31) (by decide) (by decide) (by decide), ⟨_, rfl, .cons rfl (.cons rfl (.cons rfl (.cons rfl .nil)))⟩, ?_, ?_⟩
  · rintro k v σ' hv ⟨l', rfl, hsub⟩
    obtain ⟨hk, rfl⟩ := v_is1 _ _ _ hv
    rw [show (1 : Int) + (k : Int) = ((k + 1 : Nat) : Int) by omega]
    refine Asg_sub hsub ?_
    clear hsub hv
    repeat walk_at "ev"
    refine Ev_glob H.nred (by rfl) ⟨_, rfl, H.kred, ?_⟩
    repeat walk_at "ev"
    refine Ev_glob H.nwal (by rfl) ?_
    repeat walk_at "ev"
    refine Sub_list (.inr ⟨_, rfl, st3_w⟩) (by rw [words_len]; decide) (words_at (n := k + 1) (by omega) (by omega)) ?_
    repeat walk_at "ev"
    refine CallV_fun ((red_wal H hm h0 (n := k + 1) (by omega) hcl (st3_old hrw)).mono ?_) (Nat.le_of_ble_eq_true rfl)
    rintro v s ⟨rfl, rfl⟩
    refine Then_next ?_
    dsimp only
    show Exs _ (_ :: _) _ _
    repeat walk_at "ev"
    refine Sub_tup (show 2 < 2 ^ 60 by decide) (v := .ref rw_) (by rfl) ?_
    repeat walk_at "ev"
    refine IsNot_ref ?_
    repeat walk_at "ev"
    simp only [Bool.false_eq_true, if_false]
    repeat walk_at "ev"
    refine Ev_glob H.ndig (by rfl) ⟨_, rfl, H.kdig, ?_⟩
    repeat walk_at "ev"
    refine Sub_tup (show 2 < 2 ^ 60 by decide) (v := nI (pos mv f0 (R mv f0 (k + 1)))) (by rfl) ?_
    refine Sub_list (.inr ⟨_, rfl, st3_old hdu⟩) (by rw [List.length_map]; omega) (show itemAt ((DD mv f0).map nI) ((pos mv f0 (R mv f0 (k + 1)) : Nat) : Int) = some (nI (R mv f0 (k + 1))) from ?_) ?_
    · unfold itemAt
      rw [if_pos (by omega), Int.toNat_natCast, List.getElem?_map, pos_get mv f0 (mem_DD mv f0 hm h0 _ (by omega))]; rfl
    repeat walk_at "ev"
    refine CallV_fun ((dig_spec H _ (R_lt mv f0 hm h0 _) _).mono ?_) (Nat.le_of_ble_eq_true rfl)
    rintro v s ⟨rfl, rfl⟩
    repeat walk_at "ev"
    refine Ev_boot H.nsorted c_sorted (by rfl) ⟨_, rfl, Kp_builtin, ?_⟩
    repeat walk_at "ev"
    refine Sub_list (.inr ⟨_, rfl, st3_h⟩) (by rw [heres_len]; decide) (heres_at (n := k + 1) (by omega) (by omega)) ?_
    repeat walk_at "ev"
    have hhl := HH_len mv f0 (k + 1) (by omega)
    refine Call_sorted (ns := (HH mv f0 (k + 1)).map Int.ofNat) (.inl (by rw [← nI_int])) (by rw [List.length_map]; omega) fun ns' hp hs' => ?_
    rw [sorted_dig mv f0 (k + 1) (by omega) hp hs', ← nI_int]
    repeat walk_at "ev"
    refine Cmp_ne_same (Rd.data (nI_ok 7 _)) (Rd.data (nI_ok 7 _)) ?_
    repeat walk_at "ev"
    simp only [Bool.false_eq_true, if_false]
    refine All_nil ?_
    refine ite_of (fun e => absurd e (by decide)) (fun _ => ?_)
    refine Exs_nil (Then_next (Exs_nil ⟨[("heres", .ref (S.length + 1)), ("words", .ref S.length), ("due", .ref du), ("rows", .ref rw_)], .cons rfl (.cons rfl (.cons rfl (.cons rfl .nil))), _, rfl, .cons rfl (.cons rfl (.cons rfl (.cons rfl .nil)))⟩))
  · rintro σ' ⟨l', rfl, -⟩
    refine Exs_nil (Then_next ?_)
    show Exs _ (_ :: _) _ _
    repeat walk_at "ev"
    rfl
theorem law1_e {mv : Nat → Nat} {f0 : Nat} (hm : ∀ k, mv k < 16) (h0 : f0 < 16) {S : List MO} {rw_ du : Nat} (hS : Clo S) (hrw : S[rw_]? = some (.list ((DD mv f0).map (rowT mv f0 0)))) (hdu : S[du]? = some (.list ((DD mv f0).map nI))) :
    Exs (cx G 11 20) ((bodyAt 11).drop 18) ⟨[("due", .ref du), ("rows", .ref rw_), ("first", nI f0), ("moves", movV mv)], S⟩ fun fl σ => fl.val = .bool true := by
  show Exs _ (_ :: _) _ _
  repeat walk_at "ev"
  refine Ex_asg_lc (by rfl) ⟨rfl, rfl, rfl, rfl, rfl⟩ (fun _ _ => rfl) (Ok.of (by rfl)) ?_
  repeat walk_at "ev"
  refine comp_list (vs := (List.range 8).map fun k => nI (mv k)) [] digF (.inl rfl) (by simp) cap_nil (fun v hv => ?_) ?_
  · obtain ⟨k, hk, rfl⟩ := List.mem_map.mp hv
    repeat walk_at "ev"
    refine Ev_glob H.ndig (by rfl) ⟨_, rfl, H.kdig, ?_⟩
    repeat walk_at "ev"
    refine CallV_fun ((dig_spec H _ (hm k) _).mono ?_) (Nat.le_of_ble_eq_true rfl)
    rintro v s ⟨rfl, rfl⟩
    exact ⟨rfl, rfl, .nil⟩
  rw [show V.lst (((List.range 8).map fun k => nI (mv k)).map digF) = nexV mv by unfold nexV; rw [List.map_map]; rfl]
  refine Then_next ?_
  dsimp only
  show Exs _ (_ :: _) _ _
  repeat walk_at "ev"
  refine Ev_lstC (by decide) ?_
  repeat walk_at "ev"
  refine Ev_lst (by decide) ?_
  repeat walk_at "ev"
  refine Ev_lstC (by decide) ?_
  repeat walk_at "ev"
  refine Ev_glob H.ndig (by rfl) ⟨_, rfl, H.kdig, ?_⟩
  repeat walk_at "ev"
  refine CallV_fun ((dig_spec H _ h0 _).mono ?_) (Nat.le_of_ble_eq_true rfl)
  rintro v s ⟨rfl, rfl⟩
  repeat walk_at "ev"
  have e0 : S ++ [MO.list [V.none, V.lst []]] ++ [MO.list [V.none, nsV (dig f0)]] = st3 mv f0 S 1 1 := by
    unfold st3 wordsL heresL
    simp [WW_one, HH_one]
  rw [show (S ++ [MO.list [V.none, V.lst []]]).length = S.length + 1 by simp, e0]
  refine Ex_for (fun k σ => ∃ l', σ = ⟨l', st3 mv f0 S (k + 1) (k + 1)⟩ ∧ Sub [("heres", .ref (S.length + 1)), ("words", .ref S.length), ("nexts", nexV mv), ("due", .ref du), ("rows", .ref rw_)] l') (fun _ _ => rfl) ?_
  repeat walk_at "ev"
  refine Ev_boot H.nrange c_range (by rfl) ⟨_, rfl, Kp_type, ?_⟩
  repeat walk_at "ev"
  refine Call_range2 ?_
  refine ⟨_, Src_up (n := 30) (by decide) (by decide) (by decide), ⟨_, rfl, .cons rfl (.cons rfl (.cons rfl (.cons rfl (.cons rfl .nil))))⟩, ?_, ?_⟩
  · rintro k v σ' hv ⟨l', rfl, hsub⟩
    obtain ⟨hk, rfl⟩ := v_is1 _ _ _ hv
    refine Asg_sub hsub ?_
    clear hsub hv
    refine Asg_name (Ok.of (by rfl)) ?_
    refine Exs_cons (Ex_expr (by rfl) (by rfl) ?_)
    refine Ev_meth (fun _ => rfl) (by decide) (by rfl) (by rfl) PySem.F.slot_list_append PySem.F.type_list_append ?_
    repeat walk_at "ev"
    refine ⟨⟨S.length, _, rfl, st3_w⟩, ?_⟩
    repeat walk_at "ev"
    rw [half_n]
    refine Sub_list (.inr ⟨_, rfl, st3_w⟩) (by rw [words_len]; omega) (words_at (n := (k + 2) / 2) (by omega) (by omega)) ?_
    refine Ev_lst (by decide) ?_
    repeat walk_at "ev"
    rw [mod_n]
    have hwl := WW_len ((k + 2) / 2)
    refine Bin_cat (.inl rfl) (.inl rfl) (by rw [List.length_map, sizeLine_eq]; show _ + 1 ≤ _; omega) ?_
    repeat walk_at "ev"
    refine Call_append st3_w (by rw [words_len]; omega) ?_
    rw [show V.lst ((WW ((k + 2) / 2)).map nI ++ [nI ((k + 2) % 2)]) = nsV (WW (k + 1 + 1)) by rw [WW_big (show 2 ≤ k + 1 + 1 by omega)]; show _ = V.lst (List.map nI _); rw [List.map_append]; rfl]
    rw [words_succ, st3_setw]
    refine Then_next ?_
    refine Exs_cons (Ex_expr (by rfl) (by rfl) ?_)
    refine Ev_meth (fun _ => rfl) (by decide) (by rfl) (by rfl) PySem.F.slot_list_append PySem.F.type_list_append ?_
    repeat walk_at "ev"
    refine ⟨⟨S.length + 1, _, rfl, st3_h⟩, ?_⟩
    repeat walk_at "ev"
    refine Ev_glob H.nnex (by rfl) ⟨_, rfl, H.knex, ?_⟩
    repeat walk_at "ev"
    rw [half_n]
    refine Sub_list (.inr ⟨_, rfl, st3_h⟩) (by rw [heres_len]; omega) (heres_at (n := (k + 2) / 2) (by omega) (by omega)) ?_
    repeat walk_at "ev"
    rw [mod_n]
    refine CallV_fun ((nex_spec H (mv := mv) (b := (k + 2) % 2) (HH_lt mv f0 _ (by omega)) (HH_len mv f0 _ (by omega)) (by omega) (st3_clo hS)).mono ?_) (Nat.le_of_ble_eq_true rfl)
    rintro v s ⟨rfl, rfl⟩
    repeat walk_at "ev"
    refine Call_append st3_h (by rw [heres_len]; omega) ?_
    rw [show nxt (fun k => dig (mv k)) (HH mv f0 ((k + 2) / 2)) ((k + 2) % 2) = HH mv f0 (k + 1 + 1) from (HH_big mv f0 (show 2 ≤ k + 1 + 1 by omega)).symm]
    rw [heres_succ, st3_seth]
    exact Then_next (Exs_nil ⟨[("heres", .ref (S.length + 1)), ("words", .ref S.length), ("nexts", nexV mv), ("due", .ref du), ("rows", .ref rw_)], .cons rfl (.cons rfl (.cons rfl (.cons rfl (.cons rfl .nil)))), _, rfl, .cons rfl (.cons rfl (.cons rfl (.cons rfl (.cons rfl .nil))))⟩)
  · rintro σ' ⟨l', rfl, hsub⟩
    rw [List.length_map, List.length_range]
    refine Exs_nil (Then_next (Exs_sub (fun p hp => hsub p ?_) (law1_f H hm h0 hS hrw hdu)))
    simp only [List.mem_cons, List.not_mem_nil, or_false] at hp ⊢
    rcases hp with h | h | h | h <;> simp [h]
end
def base4 (S : List MO) (L : List V) (f0 o : Nat) (tab : V) : List MO := S ++ [.list L, .dict (ikv [((f0 : Int), nI o)]), .list [], .tup [.ref (S.length + 1), .ref S.length, .ref (S.length + 2), tab]]
section
variable {S : List MO} {L : List V} {f0 o : Nat} {tab : V}
theorem b4_len : (base4 S L f0 o tab).length = S.length + 4 := by unfold base4; simp
theorem b4_l : (base4 S L f0 o tab)[S.length]? = some (.list L) := by unfold base4; rw [List.getElem?_append_right (Nat.le_refl _), Nat.sub_self]; rfl
theorem b4_b : (base4 S L f0 o tab)[S.length + 1]? = some (.dict (ikv [((f0 : Int), nI o)])) := by unfold base4; rw [List.getElem?_append_right (by omega), show S.length + 1 - S.length = 1 by omega]; rfl
theorem b4_r : (base4 S L f0 o tab)[S.length + 2]? = some (.list []) := by unfold base4; rw [List.getElem?_append_right (by omega), show S.length + 2 - S.length = 2 by omega]; rfl
theorem b4_t : (base4 S L f0 o tab)[S.length + 3]? = some (.tup [.ref (S.length + 1), .ref S.length, .ref (S.length + 2), tab]) := by unfold base4; rw [List.getElem?_append_right (by omega), show S.length + 3 - S.length = 3 by omega]; rfl
theorem b4_old {i : Nat} {m : MO} (h : S[i]? = some m) : (base4 S L f0 o tab)[i]? = some m := by
  unfold base4; rw [List.getElem?_append_left (List.getElem?_eq_some_iff.mp h).1]; exact h
theorem b4_ind : Ind (base4 S L f0 o tab) (S.length + 1) S.length (S.length + 2) (S.length + 3) :=
  ⟨by omega, by omega, by omega, by omega, by omega, by omega, by rw [b4_len]; omega, by rw [b4_len]; omega, by rw [b4_len]; omega⟩
theorem b4_clo (hS : Clo S) (hL : los (S.length + 4) L = true) (ht : tab.lo (S.length + 4) = true) : Clo (base4 S L f0 o tab) := by
  unfold base4
  refine hS.add fun m hm => ?_
  simp only [List.mem_cons, List.not_mem_nil, or_false] at hm
  rcases hm with rfl | rfl | rfl | rfl
  · exact hL
  · rfl
  · rfl
  · show los _ _ = true
    simp only [los, V.lo, List.length_cons, List.length_nil]
    rw [ht]
    simp
theorem b4_set {L' : List V} : (base4 S L f0 o tab).set S.length (.list L') = base4 S L' f0 o tab := by unfold base4; simp
end
theorem b4_set1 (S : List MO) (L : List V) (x : MO) : (S ++ [MO.list L] ++ [MO.dict []]).set (S ++ [MO.list L]).length x = S ++ [.list L] ++ [x] := by simp
theorem b4_l3 (S : List MO) (L : List V) (x : MO) : (S ++ [MO.list L] ++ [x] ++ [MO.list []]).length = S.length + 3 := by simp
theorem b4_made (S : List MO) (L : List V) (f0 o : Nat) (tab : V) : S ++ [MO.list L] ++ [MO.dict (mkv [(.inl (f0 : Int), nI o)])] ++ [MO.list []] ++ [MO.tup [.ref (S ++ [MO.list L]).length, .ref S.length, .ref (S ++ [MO.list L] ++ [MO.dict (mkv [(.inl (f0 : Int), nI o)])]).length, tab]] = base4 S L f0 o tab := by
  unfold base4
  simp [mkv, ikv, kV]
theorem tab_lo (mv : Nat → Nat) (k : Nat) : (tabV mv).lo k = true := (los_all k _).mpr fun v hv => by
  obtain ⟨i, -, rfl⟩ := List.mem_map.mp hv; rfl
/-- the store when a fold is done -/
def UF (mv : Nat → Nat) (f0 : Nat) (S : List MO) (pre : List V) : List MO := UU mv f0 (base4 S (pre ++ [nI f0]) f0 pre.length (tabV mv) ++ [.junk]) (S.length + 1) S.length (S.length + 2) pre 65536 (CC mv f0).length
section
variable {mv : Nat → Nat} {f0 : Nat} {S : List MO} {pre : List V}
theorem UF_ind (x : MO) : Ind (base4 S (pre ++ [nI f0]) f0 pre.length (tabV mv) ++ [x]) (S.length + 1) S.length (S.length + 2) (S.length + 3) := b4_ind.more [x]
theorem UF_l : (UF mv f0 S pre)[S.length]? = some (.list (pre ++ (DD mv f0).map nI)) := three_l (UF_ind .junk)
theorem UF_r (hm : ∀ k, mv k < 16) (h0 : f0 < 16) : (UF mv f0 S pre)[S.length + 2]? = some (.list ((DD mv f0).map (rowT mv f0 pre.length))) := by
  rw [← rows_all hm h0]
  exact three_r (UF_ind .junk)
theorem UF_t : (UF mv f0 S pre)[S.length + 3]? = some (.tup [.ref (S.length + 1), .ref S.length, .ref (S.length + 2), tabV mv]) := by
  have := three_t (es := bookL (LL mv f0 65536) pre.length) (L := pre ++ (LL mv f0 65536).map nI) (rows := rowsL mv f0 pre.length (CC mv f0).length) (UF_ind (mv := mv) (f0 := f0) (S := S) (pre := pre) .junk)
  exact this.trans (three_more b4_t)
theorem UF_old {i : Nat} {m : MO} (h : S[i]? = some m) : (UF mv f0 S pre)[i]? = some m := by
  have hi := (List.getElem?_eq_some_iff.mp h).1
  unfold UF UU three
  rw [List.getElem?_set_ne (by omega), List.getElem?_set_ne (by omega), List.getElem?_set_ne (by omega)]
  exact three_more (b4_old h)
theorem UF_clo (hS : Clo S) (hp : los (S.length + 4) pre = true) : Clo (UF mv f0 S pre) := by
  have hb : Clo (base4 S (pre ++ [nI f0]) f0 pre.length (tabV mv)) := b4_clo hS (by rw [los_append, hp]; rfl) (tab_lo _ _)
  refine UU_clo (hb.add fun m hm => by rw [List.mem_singleton.mp hm]; rfl) ?_
  rw [List.length_append, b4_len]
  exact los_mono (by omega) pre hp
end
theorem rowT_ok (mv : Nat → Nat) (f0 o : Nat) (l : List Nat) : (V.lst (l.map (rowT mv f0 o))).ok 8 = true := by
  show (l.map (rowT mv f0 o)).all (V.ok 7) = true
  rw [List.all_eq_true]
  intro v hv
  obtain ⟨i, -, rfl⟩ := List.mem_map.mp hv
  rfl
def incV : V → V
  | .int i => .int (i + 1)
  | v => v
def incR : V → V
  | .lst vs => .lst (vs.map incV)
  | v => v
theorem inc_rows (mv : Nat → Nat) (f0 : Nat) (l : List Nat) : (l.map (rowT mv f0 0)).map incR = l.map (rowT mv f0 1) := by
  rw [List.map_map]; rfl
section
variable {G : Gl} {ar am ow ad at_ au al an aw : Addr} (H : Gs1 G ar am ow ad at_ au al an aw)
include H
theorem law1_d {mv : Nat → Nat} {f0 : Nat} (hm : ∀ k, mv k < 16) (h0 : f0 < 16) {S : List MO} {rw_ du : Nat} (hS : Clo S) (hrw : S[rw_]? = some (.list ((DD mv f0).map (rowT mv f0 0)))) (hdu : S[du]? = some (.list ((DD mv f0).map nI))) :
    Exs (cx G 11 20) ((bodyAt 11).drop 13) ⟨[("due", .ref du), ("rows", .ref rw_), ("table", tabV mv), ("first", nI f0), ("moves", movV mv)], S⟩ fun fl σ => fl.val = .bool true := by
  have hdl := DD_len mv f0 hm h0
  show Exs _ (_ :: _) _ _
  refine Exs_cons (Ex_asg (by rfl) (Ok.of (by rfl)) (Ev_lstC (by decide) ?_))
  refine Evs_cons (by rfl) (Ev_none (Evs_cons (by rfl) (Ev_name (v := nI f0) rfl (by rfl) (Evs_nil (Then_next ?_)))))
  dsimp only
  refine Exs_cons (Ex_asg (by rfl) (Ok.of (by rfl)) (Ev_tupC (by decide) ?_))
  refine Evs_cons (by rfl) ?_
  refine Ev_dctD (fun _ => rfl) (by rfl) (by rfl) ?_
  refine EvPs_cons (Ev_name (v := nI f0) rfl (by rfl) ⟨.inl (f0 : Int), rfl, ?_⟩)
  repeat walk_at "ev"
  refine EvPs_nil ?_
  refine ⟨by simp, by simp, ?_⟩
  repeat walk_at "ev"
  refine Ev_lstC (by decide) ?_
  repeat walk_at "ev"
  rw [b4_set1, b4_l3, show V.int 1 = nI 1 from rfl, b4_made]
  refine Ex_asgS (by rfl) ?_
  repeat walk_at "ev"
  refine Set_list b4_l (by decide) (by simp) (by simp) ?_
  rw [b4_set, show ([V.none, nI f0].set (0 : Int).toNat (.ref (S.length + 3))) = [.ref (S.length + 3)] ++ [nI f0] from rfl]
  have hSb : Clo (base4 S ([.ref (S.length + 3)] ++ [nI f0]) f0 1 (tabV mv)) := b4_clo hS (by simp [los, V.lo]) (tab_lo _ _)
  have red := red_unf_hd H hm h0 b4_ind b4_t hSb b4_b b4_l b4_r
  have hcl : Clo (UF mv f0 S [.ref (S.length + 3)]) := UF_clo hS (by simp [los, V.lo])
  have hdu' : (UF mv f0 S [.ref (S.length + 3)])[du]? = some (.list ((DD mv f0).map nI)) := UF_old hdu
  have hrw' : (UF mv f0 S [.ref (S.length + 3)])[rw_]? = some (.list ((DD mv f0).map (rowT mv f0 0))) := UF_old hrw
  repeat walk_at "ev"
  refine Ev_glob H.nred (by rfl) ⟨_, rfl, H.kred, ?_⟩
  repeat walk_at "ev"
  refine Ev_glob H.nunf (by rfl) ?_
  repeat walk_at "ev"
  refine CallV_fun (red.mono ?_) (Nat.le_of_ble_eq_true rfl)
  rintro v s ⟨rfl, rfl⟩
  rw [show UU mv f0 (base4 S ([V.ref (S.length + 3)] ++ [nI f0]) f0 1 (tabV mv) ++ [MO.junk]) (S.length + 1) S.length (S.length + 2) [V.ref (S.length + 3)] 65536 (CC mv f0).length = UF mv f0 S [.ref (S.length + 3)] from rfl]
  repeat walk_at "ev"
  refine IsNot_ref ?_
  repeat walk_at "ev"
  simp only [Bool.false_eq_true, if_false]
  repeat walk_at "ev"
  refine ⟨_, rfl, ?_⟩
  repeat walk_at "ev"
  refine ⟨fun e => (nomatch e), _, .inr ⟨_, rfl, UF_l⟩, by simp; omega, ?_⟩
  rw [show (1 : Int) = ((1 : Nat) : Int) from rfl, slc_from, List.singleton_append, List.drop_succ_cons, List.drop_zero]
  repeat walk_at "ev"
  refine Cmp_ne_same (Rd.data (nI_ok 7 _)) (.inr ⟨du, _, rfl, hdu', rfl, nI_ok 7 _⟩) ?_
  repeat walk_at "ev"
  simp only [Bool.false_eq_true, if_false]
  refine All_nil ?_
  refine ite_of (fun e => absurd e (by decide)) (fun _ => ?_)
  repeat walk_at "ev"
  refine Sub_tupC UF_t (show 4 < 2 ^ 60 by decide) (i := 2) (v := .ref (S.length + 2)) rfl ?_
  repeat walk_at "ev"
  refine Ev_lc ⟨rfl, rfl, rfl, rfl, rfl⟩ (fun _ _ => rfl) ?_
  repeat walk_at "ev"
  refine comp_list (vs := (DD mv f0).map (rowT mv f0 0)) [] incR (.inr ⟨rw_, rfl, hrw'⟩) (by rw [List.length_map]; omega) cap_nil (fun v hv => ?_) ?_
  · obtain ⟨t, ht, rfl⟩ := List.mem_map.mp hv
    refine Ev_lc ⟨rfl, rfl, rfl, rfl, rfl⟩ (fun _ _ => rfl) ?_
    repeat walk_at "ev"
    refine comp_list (vs := [nI (pos mv f0 (img mv t 0) + 0), nI (pos mv f0 (img mv t 1) + 0)]) [] incV (.inl rfl) (show 2 < 1000000 by decide) cap_nil (fun v hv => ?_) ?_
    · obtain ⟨n, rfl⟩ : ∃ n : Int, v = .int n := by
        simp only [List.mem_cons, List.not_mem_nil, or_false] at hv
        rcases hv with rfl | rfl
        · exact ⟨_, rfl⟩
        · exact ⟨_, rfl⟩
      repeat walk_at "ev"
      exact ⟨rfl, rfl, .nil⟩
    · exact ⟨rfl, rfl, .nil⟩
  rw [inc_rows]
  repeat walk_at "ev"
  refine Cmp_ne_same (.inr ⟨S.length + 2, _, rfl, UF_r hm h0, rfl, rowT_ok _ _ _ _⟩) (Rd.data (rowT_ok _ _ _ _)) ?_
  repeat walk_at "ev"
  simp only [Bool.false_eq_true, if_false]
  refine Exs_nil (Then_next (Exs_sub (.cons rfl (.cons rfl (.cons rfl (.cons rfl .nil)))) (law1_e H hm h0 hcl hrw' hdu')))
end
def posF (mv : Nat → Nat) (f0 : Nat) : V → V
  | .int i => nI (pos mv f0 i.toNat)
  | v => v
def rowF (mv : Nat → Nat) (f0 : Nat) : V → V
  | .int i => rowT mv f0 0 i.toNat
  | v => v
section
variable {G : Gl} {ar am ow ad at_ au al an aw : Addr} (H : Gs1 G ar am ow ad at_ au al an aw)
include H
theorem law1_c {mv : Nat → Nat} {f0 : Nat} (hm : ∀ k, mv k < 16) (h0 : f0 < 16) {S : List MO} {rw_ du : Nat} (hS : Clo S) (hrw : S[rw_]? = some (.list ((DD mv f0).map (rowT mv f0 0)))) (hdu : S[du]? = some (.list ((DD mv f0).map nI))) :
    Exs (cx G 11 20) ((bodyAt 11).drop 10) ⟨[("due", .ref du), ("rows", .ref rw_), ("table", tabV mv), ("first", nI f0), ("moves", movV mv)], S⟩ fun fl σ => fl.val = .bool true := by
  have hdl := DD_len mv f0 hm h0
  show Exs _ (_ :: _) _ _
  refine Exs_cons (Ex_asg (by rfl) (Ok.of (by rfl)) (Ev_lstC (by decide) ?_))
  refine Evs_cons (by rfl) (Ev_name (v := nI f0) rfl (by rfl) (Evs_nil (Then_next ?_)))
  dsimp only
  refine Exs_cons (Ex_asg (by rfl) (Ok.of (by rfl)) (Ev_tupC (by decide) ?_))
  refine Evs_cons (by rfl) ?_
  refine Ev_dctD (fun _ => rfl) (by rfl) (by rfl) ?_
  refine EvPs_cons (Ev_name (v := nI f0) rfl (by rfl) ⟨.inl (f0 : Int), rfl, ?_⟩)
  repeat walk_at "ev"
  refine EvPs_nil ?_
  refine ⟨by simp, by simp, ?_⟩
  repeat walk_at "ev"
  refine Ev_lstC (by decide) ?_
  repeat walk_at "ev"
  rw [b4_set1, b4_l3, show V.int 0 = nI 0 from rfl, b4_made]
  have hSb : Clo (base4 S [nI f0] f0 0 (tabV mv)) := b4_clo hS rfl (tab_lo _ _)
  have red := red_unf_it H hm h0 b4_ind b4_t hSb b4_b b4_l b4_r
  have hcl : Clo (UF mv f0 S []) := UF_clo hS rfl
  have hdu' : (UF mv f0 S [])[du]? = some (.list ((DD mv f0).map nI)) := UF_old hdu
  have hrw' : (UF mv f0 S [])[rw_]? = some (.list ((DD mv f0).map (rowT mv f0 0))) := UF_old hrw
  refine Ev_glob H.nred (by rfl) ⟨_, rfl, H.kred, ?_⟩
  repeat walk_at "ev"
  refine Ev_glob H.nunf (by rfl) ?_
  repeat walk_at "ev"
  refine Ev_boot H.niter c_iter (by rfl) ⟨_, rfl, Kp_builtin, ?_⟩
  repeat walk_at "ev"
  refine Call_iter (.inr ⟨S.length, rfl, b4_l⟩) ?_
  repeat walk_at "ev"
  refine CallV_fun (red.mono ?_) (Nat.le_of_ble_eq_true rfl)
  rintro v s ⟨rfl, rfl⟩
  rw [show UU mv f0 (base4 S [nI f0] f0 0 (tabV mv) ++ [MO.junk]) (S.length + 1) S.length (S.length + 2) [] 65536 (CC mv f0).length = UF mv f0 S [] from rfl]
  repeat walk_at "ev"
  refine IsNot_ref ?_
  repeat walk_at "ev"
  simp only [Bool.false_eq_true, if_false]
  repeat walk_at "ev"
  refine Cmp_ne_same (d := .lst ((DD mv f0).map nI)) (.inr ⟨S.length, _, rfl, UF_l, rfl, nI_ok 7 _⟩) (.inr ⟨du, _, rfl, hdu', rfl, nI_ok 7 _⟩) ?_
  repeat walk_at "ev"
  simp only [Bool.false_eq_true, if_false]
  repeat walk_at "ev"
  refine Sub_tupC UF_t (show 4 < 2 ^ 60 by decide) (i := 2) (v := .ref (S.length + 2)) rfl ?_
  repeat walk_at "ev"
  refine Cmp_ne_same (d := .lst ((DD mv f0).map (rowT mv f0 0))) (.inr ⟨S.length + 2, _, rfl, UF_r hm h0, rfl, rowT_ok _ _ _ _⟩) (.inr ⟨rw_, _, rfl, hrw', rfl, rowT_ok _ _ _ _⟩) ?_
  repeat walk_at "ev"
  simp only [Bool.false_eq_true, if_false]
  refine All_nil ?_
  refine ite_of (fun e => absurd e (by decide)) (fun _ => ?_)
  refine Exs_nil (Then_next (Exs_sub (.cons rfl (.cons rfl (.cons rfl (.cons rfl (.cons rfl .nil))))) (law1_d H hm h0 hcl hrw' hdu')))
theorem law1_b {mv : Nat → Nat} {f0 : Nat} (hm : ∀ k, mv k < 16) (h0 : f0 < 16) :
    Exs (cx G 11 20) ((bodyAt 11).drop 3) ⟨[("table", tabV mv), ("first", nI f0), ("moves", movV mv)], []⟩ fun fl σ => fl.val = .bool true := by
  have hdl := DD_len mv f0 hm h0
  have hS : Clo [] := fun o ho => nomatch ho
  show Exs _ (_ :: _) _ _
  refine Exs_cons (Ex_asg (by rfl) (Ok.of (by rfl)) (Ev_lstC (by decide) ?_))
  refine Evs_cons (by rfl) (Ev_name (v := nI f0) rfl (by rfl) (Evs_nil (Then_next ?_)))
  dsimp only
  refine Exs_cons (Ex_asg (by rfl) (Ok.of (by rfl)) (Ev_tupC (by decide) ?_))
  refine Evs_cons (by rfl) ?_
  refine Ev_dctD (fun _ => rfl) (by rfl) (by rfl) ?_
  refine EvPs_cons (Ev_name (v := nI f0) rfl (by rfl) ⟨.inl (f0 : Int), rfl, ?_⟩)
  repeat walk_at "ev"
  refine EvPs_nil ?_
  refine ⟨by simp, by simp, ?_⟩
  repeat walk_at "ev"
  refine Ev_lstC (by decide) ?_
  repeat walk_at "ev"
  rw [b4_set1, b4_l3, show V.int 0 = nI 0 from rfl, b4_made]
  have hSb : Clo (base4 [] [nI f0] f0 0 (tabV mv)) := b4_clo hS rfl (tab_lo _ _)
  have red := red_unf H hm h0 b4_ind b4_t hSb b4_b b4_l b4_r
  have hcl : Clo (UF mv f0 [] []) := UF_clo hS rfl
  have ul : (UF mv f0 [] [])[0]? = some (.list ((DD mv f0).map nI)) := UF_l
  have ur : (UF mv f0 [] [])[2]? = some (.list ((DD mv f0).map (rowT mv f0 0))) := UF_r (S := []) (pre := []) hm h0
  have ut : (UF mv f0 [] [])[3]? = some (.tup [.ref 1, .ref 0, .ref 2, tabV mv]) := UF_t (S := [])
  refine Ev_glob H.nred (by rfl) ⟨_, rfl, H.kred, ?_⟩
  repeat walk_at "ev"
  refine Ev_glob H.nunf (by rfl) ?_
  repeat walk_at "ev"
  refine CallV_fun (red.mono ?_) (Nat.le_of_ble_eq_true rfl)
  rintro v s ⟨rfl, rfl⟩
  rw [show UU mv f0 (base4 [] [nI f0] f0 0 (tabV mv) ++ [MO.junk]) (([] : List MO).length + 1) ([] : List MO).length (([] : List MO).length + 2) [] 65536 (CC mv f0).length = UF mv f0 [] [] from rfl]
  generalize UF mv f0 [] [] = U at hcl ul ur ut ⊢
  repeat walk_at "ev"
  refine IsNot_ref ?_
  repeat walk_at "ev"
  simp only [Bool.false_eq_true, if_false]
  repeat walk_at "ev"
  refine Sub_tupC ut (show 4 < 2 ^ 60 by decide) (i := 2) (v := .ref 2) rfl ?_
  repeat walk_at "ev"
  refine Ev_glob H.nlea (by rfl) ⟨_, rfl, H.klea, ?_⟩
  repeat walk_at "ev"
  refine CallV_fun ((lea_spec H hm h0 hcl).mono ?_) (Nat.le_of_ble_eq_true rfl)
  rintro v s ⟨⟨es, D, rfl⟩, rfl⟩
  refine Then_next ?_
  dsimp only
  have hnd := bE_nodup D.1.nd
  have hel := D.1.len mv f0 hm h0
  have htl : (trips es).length = es.length := by unfold trips; rw [List.length_map]
  refine Exs_cons (Ex_asg (by rfl) (Ok.of (by rfl)) (Ev_lcC ⟨rfl, rfl, rfl, rfl, rfl⟩ (fun _ _ => rfl) ?_))
  repeat walk_at "ev"
  refine Ev_boot H.nsorted c_sorted (by rfl) ⟨_, rfl, Kp_builtin, ?_⟩
  refine Evs_cons (by rfl) (Ev_lc ⟨rfl, rfl, rfl, rfl, rfl⟩ (fun _ _ => rfl) ?_)
  repeat walk_at "ev"
  refine comp_src [("best", .dct (ikv (bE es)))] (tripF es) (.dct hnd) rfl (by unfold bE; rw [List.length_map, List.length_map]; omega) (cap_cons rfl rfl cap_nil) (fun v hv => ?_) ?_
  · unfold bE at hv
    rw [List.map_map] at hv
    obtain ⟨p, hp, rfl⟩ := List.mem_map.mp hv
    have hfind := bE_find D.1.nd (show (p.1, p.2) ∈ es from hp)
    refine Ev_tup (by decide) ?_
    repeat walk_at "ev"
    refine Sub_dcI hnd hfind ?_
    repeat walk_at "ev"
    refine Sub_tup (show 2 < 2 ^ 60 by decide) (v := nI p.2.log2) (by rfl) ?_
    repeat walk_at "ev"
    refine Sub_dcI hnd hfind ?_
    repeat walk_at "ev"
    refine Sub_tup (show 2 < 2 ^ 60 by decide) (v := nI (p.2 - 2 ^ p.2.log2)) (by rfl) ?_
    repeat walk_at "ev"
    refine ⟨?_, rfl, .cons rfl .nil⟩
    show _ = trV (trip (p.1 : Int).toNat (codeOf es (p.1 : Int).toNat))
    rw [Int.toNat_natCast, codeOf_eq D.1.nd hp]
    rfl
  rw [trips_eq D.1.nd]
  repeat walk_at "ev"
  refine Call_sortedT (ts := trips es) (key := fun i => (es.getD i (0, 0)).2) (.inl rfl) (by omega) (trips_lt D.1) (codes_ne D.1) fun q hq hs => ?_
  refine comp_list (vs := q.toList.map fun i => trV ((trips es).getD i (0, 0, 0))) [] thirdF (.inl rfl) (by rw [List.length_map, Array.length_toList, hq.size]; omega) cap_nil (fun v hv => ?_) ?_
  · obtain ⟨i, hi, rfl⟩ := List.mem_map.mp hv
    repeat walk_at "ev"
    refine Sub_tup (show 3 < 2 ^ 60 by decide) (v := .int ((trips es).getD i (0, 0, 0)).2.2) (by rfl) ?_
    exact ⟨rfl, rfl, .nil⟩
  rw [due_eq hm h0 D hq hs]
  refine ⟨_, rfl, Then_next ?_⟩
  dsimp only
  have hsl := (List.getElem?_eq_some_iff.mp ut).1
  have hcl2 : Clo (s ++ [MO.list ((DD mv f0).map nI)]) := hcl.add fun m hm => by rw [List.mem_singleton.mp hm]; exact los_nI _ _
  have ud : (s ++ [MO.list ((DD mv f0).map nI)])[s.length]? = some (.list ((DD mv f0).map nI)) := by simp
  have ul2 := three_more (x := MO.list ((DD mv f0).map nI)) ul
  have ur2 := three_more (x := MO.list ((DD mv f0).map nI)) ur
  generalize s ++ [MO.list ((DD mv f0).map nI)] = U2 at hcl2 ud ul2 ur2 ⊢
  show Exs _ (_ :: _) _ _
  repeat walk_at "ev"
  refine Cmp_ne_same (d := .lst ((DD mv f0).map nI)) (.inr ⟨0, _, rfl, ul2, rfl, nI_ok 7 _⟩) (.inr ⟨s.length, _, rfl, ud, rfl, nI_ok 7 _⟩) ?_
  repeat walk_at "ev"
  simp only [Bool.false_eq_true, if_false]
  repeat walk_at "ev"
  refine Ev_lc ⟨rfl, rfl, rfl, rfl, rfl⟩ (fun _ _ => rfl) ?_
  repeat walk_at "ev"
  refine comp_list (vs := (DD mv f0).map nI) [("due", .ref s.length), ("table", tabV mv)] (rowF mv f0) (.inr ⟨s.length, rfl, ud⟩) (by rw [List.length_map]; omega) (cap_cons rfl rfl (cap_cons rfl rfl cap_nil)) (fun v hv => ?_) ?_
  · obtain ⟨t, ht, rfl⟩ := List.mem_map.mp hv
    have ht16 := DD_lt mv f0 hm h0 t ht
    have hin : ∀ b, b < 2 → img mv t b ∈ DD mv f0 := fun b hb => by
      obtain ⟨c, hc, rfl⟩ := List.mem_map.mp ht
      have h1 := ((mem_CC mv f0 hm h0).mp hc).1
      rw [← R_two mv f0 c b h1 hb]
      exact mem_DD mv f0 hm h0 _ (by omega)
    refine Ev_lc ⟨rfl, rfl, rfl, rfl, rfl⟩ (fun _ _ => rfl) ?_
    repeat walk_at "ev"
    refine Sub_list (vs := (List.range 16).map (pairV mv)) (.inl rfl) (by simp) (tab_at ht16) ?_
    refine comp_list (vs := [nI (img mv t 0), nI (img mv t 1)]) [("due", .ref s.length)] (posF mv f0) (.inl rfl) (show 2 < 1000000 by decide) (cap_cons rfl rfl cap_nil) (fun v hv => ?_) ?_
    · obtain ⟨u, hu, rfl⟩ : ∃ u, u ∈ DD mv f0 ∧ v = nI u := by
        simp only [List.mem_cons, List.not_mem_nil, or_false] at hv
        rcases hv with rfl | rfl
        · exact ⟨_, hin 0 (by decide), rfl⟩
        · exact ⟨_, hin 1 (by decide), rfl⟩
      refine Ev_meth (fun _ => rfl) (by decide) (by rfl) (by rfl) PySem.F.slot_list_index PySem.F.type_list_index ?_
      repeat walk_at "ev"
      refine ⟨⟨s.length, _, rfl, ud⟩, ?_⟩
      repeat walk_at "ev"
      refine Call_index (ns := (DD mv f0).map Int.ofNat) (j := pos mv f0 u) (.inr ⟨s.length, rfl, by rw [← nI_int]; exact ud⟩) (by rw [List.length_map]; omega) ?_ ?_ ?_
      · rw [List.getElem?_map, pos_get mv f0 hu]; rfl
      · intro m hlt e
        rw [List.getElem?_map] at e
        cases hd : (DD mv f0)[m]? with
        | none => rw [hd] at e; cases e
        | some x =>
          rw [hd] at e
          simp only [Option.map_some, Option.some.injEq] at e
          have : x = u := Int.ofNat.inj e
          subst this
          exact pos_first mv f0 hlt hd
      · exact ⟨rfl, rfl, .cons rfl .nil⟩
    · exact ⟨rfl, rfl, .cons rfl (.cons rfl .nil)⟩
  rw [show ((DD mv f0).map nI).map (rowF mv f0) = (DD mv f0).map (rowT mv f0 0) by rw [List.map_map]; rfl]
  repeat walk_at "ev"
  refine Cmp_ne_same (.inr ⟨2, _, rfl, ur2, rfl, rowT_ok _ _ _ _⟩) (Rd.data (rowT_ok _ _ _ _)) ?_
  repeat walk_at "ev"
  simp only [Bool.false_eq_true, if_false]
  refine All_nil ?_
  refine ite_of (fun e => absurd e (by decide)) (fun _ => ?_)
  refine Exs_nil (Then_next (Exs_sub (.cons rfl (.cons rfl (.cons rfl (.cons rfl (.cons rfl .nil))))) (law1_c H hm h0 hcl2 ur2 ud)))
end
def mvOf (ns : List Int) (k : Nat) : Nat := (((slc ns (some (k : Int)) none (some 8)).sum + ((ownL.getD k 0 : Nat) : Int)) % 16).toNat
theorem mvOf_lt (ns : List Int) (k : Nat) : mvOf ns k < 16 := by
  unfold mvOf
  have h1 := Int.emod_nonneg ((slc ns (some (k : Int)) none (some 8)).sum + ((ownL.getD k 0 : Nat) : Int)) (show (16 : Int) ≠ 0 by decide)
  have h2 := Int.emod_lt_of_pos ((slc ns (some (k : Int)) none (some 8)).sum + ((ownL.getD k 0 : Nat) : Int)) (show (0 : Int) < 16 by decide)
  omega
def f0Of (ns : List Int) : Nat := (ns.sum % 15).toNat + 1
theorem f0Of_lt (ns : List Int) : f0Of ns < 16 := by
  unfold f0Of
  have h1 := Int.emod_nonneg ns.sum (show (15 : Int) ≠ 0 by decide)
  have h2 := Int.emod_lt_of_pos ns.sum (show (0 : Int) < 15 by decide)
  omega
theorem fmod_pos {a b : Int} (h : 0 < b) : a.fmod b = a % b := Int.fmod_eq_emod_of_nonneg _ (by omega)
theorem own_at {k : Nat} (h : k < 8) : itemAt (ownL.map nI) (k : Int) = some (.int ((ownL.getD k 0 : Nat) : Int)) := by
  rcases (by omega : k = 0 ∨ k = 1 ∨ k = 2 ∨ k = 3 ∨ k = 4 ∨ k = 5 ∨ k = 6 ∨ k = 7) with rfl | rfl | rfl | rfl | rfl | rfl | rfl | rfl <;> rfl
section
variable {G : Gl} {ar am ow ad at_ au al an aw : Addr} (H : Gs1 G ar am ow ad at_ au al an aw)
include H
theorem law1_walk (ns : List Int) (hns : ns.length < 64) : Exs (cx G 11 20) (bodyAt 11) ⟨[("script", .lst (ns.map V.int))], []⟩ fun fl σ => fl.val = .bool true := by
  have hS : Clo [] := fun o ho => nomatch ho
  show Exs _ (_ :: _) _ _
  repeat walk_at "ev"
  refine Ex_asg_lc (by rfl) ⟨rfl, rfl, rfl, rfl, rfl⟩ (fun _ _ => rfl) (Ok.of (by rfl)) ?_
  repeat walk_at "ev"
  refine Ev_boot H.nrange c_range (by rfl) ⟨_, rfl, Kp_type, ?_⟩
  repeat walk_at "ev"
  refine Call_range1 ?_
  refine comp_range (n := 8) [("script", .lst (ns.map V.int))] (fun k => nI (mvOf ns k)) (by decide) (cap_cons rfl rfl cap_nil) (fun k hk => ?_) ?_
  · repeat walk_at "ev"
    refine Ev_boot H.nsum c_sum (by rfl) ⟨_, rfl, Kp_builtin, ?_⟩
    repeat walk_at "ev"
    refine ⟨_, rfl, ?_⟩
    repeat walk_at "ev"
    refine ⟨_, rfl, ?_⟩
    refine ⟨fun e => (by injection e with e; exact absurd e (by decide)), _, .inl rfl, by rw [List.length_map]; omega, ?_⟩
    rw [slc_map]
    repeat walk_at "ev"
    refine Call_sum (.inl rfl) ?_
    repeat walk_at "ev"
    refine Ev_data H.nown (by rfl) H.own ?_
    repeat walk_at "ev"
    refine Sub_tup (show 8 < 2 ^ 60 by decide) (own_at hk) ?_
    repeat walk_at "ev"
    rw [fmod_pos (by decide)]
    refine ⟨?_, rfl, .cons rfl .nil⟩
    have h1 := Int.emod_nonneg ((slc ns (some (k : Int)) none (some 8)).sum + ((ownL.getD k 0 : Nat) : Int)) (show (16 : Int) ≠ 0 by decide)
    show V.int _ = V.int _
    congr 1
    unfold mvOf
    omega
  refine Then_next ?_
  dsimp only
  show Exs _ (_ :: _) _ _
  repeat walk_at "ev"
  refine Ev_boot H.nsum c_sum (by rfl) ⟨_, rfl, Kp_builtin, ?_⟩
  repeat walk_at "ev"
  refine Call_sum (.inl rfl) ?_
  repeat walk_at "ev"
  rw [fmod_pos (by decide)]
  have h1 := Int.emod_nonneg ns.sum (show (15 : Int) ≠ 0 by decide)
  rw [show V.int (ns.sum % 15 + 1) = nI (f0Of ns) by show V.int _ = V.int _; congr 1; unfold f0Of; omega]
  repeat walk_at "ev"
  refine Ev_glob H.ntab (by rfl) ⟨_, rfl, H.ktab, ?_⟩
  repeat walk_at "ev"
  refine CallV_fun ((tab_spec H (mvOf ns) (mvOf_lt ns) [] hS).mono ?_) (Nat.le_of_ble_eq_true rfl)
  rintro v s ⟨rfl, rfl⟩
  refine Then_next ?_
  exact Exs_sub (.cons rfl (.cons rfl (.cons rfl .nil))) (law1_b H (mvOf_lt ns) (f0Of_lt ns))
end
theorem law1_calls {G : Gl} {ar am ow ad at_ au al an aw alaw : Addr} (H : Gs1 G ar am ow ad at_ au al an aw) (F : Fn G alaw 11 .none) (ns : List Int) (hns : ns.length < 64) : Calls G 21 (.ref alaw) [.lst (ns.map V.int)] [] fun v _ => v = .bool true := by
  refine fn_calls F [("script", .lst (ns.map V.int))] (fun nm kV doc pm an cd ct w W xs hx => ?_) (by rfl) (law1_walk H ns hns)
  obtain ⟨x, rfl, r⟩ := one_of hx
  exact ⟨_, .cons r .nil, rfl⟩
theorem own_of {K : Frag} {G : Gl} {T : Addr} {n : Nat} {t1 t2 t3 t4 t5 t6 t7 t8 : Tok} (X : K.In G.s0.heap) (ho : K.lookup T = some (tupO #[.int 6 t1, .int 3 t2, .int 5 t3, .int 12 t4, .int 9 t5, .int 2 t6, .int 10 t7, .int 7 t8] n)) (W : Wd) (hW : ∀ a o, G.s0.heap.get? a = some o → W a = .froz o) : VR G.w W (.tup (ownL.map nI)) (.ref T) :=
  .tup (hW _ _ (X _ _ ho)) (.cons (.int 6 t1) (.cons (.int 3 t2) (.cons (.int 5 t3) (.cons (.int 12 t4) (.cons (.int 9 t5) (.cons (.int 2 t6) (.cons (.int 10 t7) (.cons (.int 7 t8) .nil))))))))
end Mine
set_option maxHeartbeats 8000000 in
theorem PySem.Challenge.cw_dw5007_01_holds : PySem.Challenge.rw_dw5007_01.Holds := by
  w_on; o_law; k_head; (case hw => w_witness2)
  w_strict (
    k_fill
    intro w s₀ s₁ mg mb G Y fa o pm cd doc dV kV ho hd hcd hD hmg hg args vals as hpre hlay hrd hwl hlo
    have KX := kIn_of Y
    refine Ground.open G ?_
    intro T B D TE TW
    try (refine guard_noD D (by decide +kernel) ?_; clear D)
    wrow_args hpre hlay hrd hwl hlo
    refine enter_call ?_
    clear hD hcd hd ho B TE TW
    have e1 := mg_of (n := Str.ofString "law") KX T.g (by k_is)
    cases Option.some.inj (e1.symm.trans hmg)
    clear hmg
    refine Mine.law_ends (n₀ := 21) (G := ⟨_, w, s₁, mg, mb, T.g, T.b, T.nolimit, T.builtins⟩) hg (by assumption) (by assumption) ?_ ?_ ?_
    · intro cls; rfl
    · exact Mine.law_post _ _
    · let GG : Mine.Gl := ⟨rw_dw5007_01.row.prog, w, s₁, mg, mb, T.g, T.b, T.nolimit, T.builtins⟩
      have M := Mine.miss_of (G := GG) KX (by k_is) (by k_is) (by k_is) (by k_is)
      have nOwn := Mine.name_of (G := GG) (x := Str.ofString "_law_OWN") KX (by k_is)
      obtain ⟨n2, f2, k2⟩ := Mine.fn_at (G := GG) (x := Str.ofString "reduce") (k := 2) KX (by k_is) (by decide +kernel) (by k_is) (by k_is)
      obtain ⟨n5, f5, k5⟩ := Mine.fn_at (G := GG) (x := Str.ofString "_law_digits") (k := 5) KX (by k_is) (by decide +kernel) (by k_is) (by k_is)
      obtain ⟨n6, f6, k6⟩ := Mine.fn_at (G := GG) (x := Str.ofString "_law_table") (k := 6) KX (by k_is) (by decide +kernel) (by k_is) (by k_is)
      obtain ⟨n7, f7, k7⟩ := Mine.fn_at (G := GG) (x := Str.ofString "_law_unfold") (k := 7) KX (by k_is) (by decide +kernel) (by k_is) (by k_is)
      obtain ⟨n8, f8, k8⟩ := Mine.fn_at (G := GG) (x := Str.ofString "_law_least_words") (k := 8) KX (by k_is) (by decide +kernel) (by k_is) (by k_is)
      obtain ⟨n9, f9, k9⟩ := Mine.fn_at (G := GG) (x := Str.ofString "_law_next") (k := 9) KX (by k_is) (by decide +kernel) (by k_is) (by k_is)
      obtain ⟨n10, f10, k10⟩ := Mine.fn_at (G := GG) (x := Str.ofString "_law_walk") (k := 10) KX (by k_is) (by decide +kernel) (by k_is) (by k_is)
      obtain ⟨-, f11, -⟩ := Mine.fn_at (G := GG) (x := Str.ofString "law") (k := 11) KX (by k_is) (by decide +kernel) (by k_is) (by k_is)
      exact Mine.law1_calls (G := GG) ⟨n2, Mine.red_of KX f2 (by k_is) M, k2, nOwn, Mine.own_of KX (by k_is), n5, f5, k5, n6, f6, k6, n7, f7, k7, n8, f8, k8, n9, f9, k9, n10, f10, k10, Mine.none_of KX (by k_is), Mine.none_of KX (by k_is), Mine.none_of KX (by k_is), Mine.none_of KX (by k_is), Mine.none_of KX (by k_is)⟩ f11 _ (by omega))
