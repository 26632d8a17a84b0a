import PyProof.Rows.All
import Wide.All
import OpenK.AllK
import Wide.FinOn
import Lean
import PySem.Challenge.RW_rl0116_01
open PySem PySem.W PyProof.Rows PySem.Calls
set_option Elab.async false
set_option maxRecDepth 100000
set_option maxHeartbeats 2000000
set_option linter.unusedVariables false

namespace Mine

/-- values with the heap hidden -/
inductive V where
  | none
  | bool (b : Bool)
  | int (i : Int)
  | str (x : List Nat)
  | tup (l : List V)
  | list (l : List V)
  | arg (ns : List Int)
  | rng (a b : Int)
  | obj (C : Addr) (names : List Str) (vals : List V)
  | sd (D : List (PyData × PyData))
  | raw (u : Value)

def Ext (h h' : Heap) : Prop := ∀ b o, h.get? b = some o → h'.get? b = some o
theorem Ext.refl (h : Heap) : Ext h h := fun _ _ e => e
theorem Ext.trans {a b c : Heap} (x : Ext a b) (y : Ext b c) : Ext a c := fun p o e => y p o (x p o e)
theorem Ext.push (h : Heap) (o : Obj) : Ext h (h.push o) := fun _ _ e => Heap.get?_push_of_some _ e

structure Cx where
  prog : Program
  w : World
  K : Frag
  p : Program
  loose : List Str
  mean : ExcName → Option Value
  mg : Str → Option Value
  mb : Str → Option Value
abbrev Cx.M (c : Cx) : Model := model c.prog c.w
structure Cx.Ok (c : Cx) (h : Heap) : Prop where
  K : c.K.In h
  T : Top c.p c.loose c.mean c.mg c.mb h
theorem Cx.Ok.keeps {c : Cx} {h h' : Heap} (x : c.Ok h) (k : Ext h h') : c.Ok h' := ⟨x.K.keeps k, x.T.keeps k⟩

mutual
def Rep (c : Cx) (h : Heap) (N : Addr → Prop) : Value → V → Prop
  | v, .none => v = .none
  | v, .bool b => v = .bool b
  | v, .int i => ∃ t, v = .int i t
  | v, .str x => ∃ t, v = .str ⟨x.toArray⟩ t
  | v, .tup l => ∃ a vs, v = .ref a ∧ ¬ N a ∧ IsTup h a vs.toArray ∧ RepL c h N vs l
  | v, .list l => ∃ a vs, v = .ref a ∧ ¬ N a ∧ h.PlainList a vs.toArray ∧ RepL c h N vs l
  | v, .arg ns => ∃ a vs, v = .ref a ∧ ¬ N a ∧ h.IsList a vs.toArray ∧ IntsAre vs ns
  | v, .rng x y => ∃ a t u u', v = .ref a ∧ ¬ N a ∧ IsRange h a x y 1 t u u'
  | v, .obj C names vals => ∃ a dx es n, v = .ref a ∧ ¬ N a ∧ ¬ N dx ∧ h.get? a = some (instObj C dx) ∧ h.get? dx = some (dictOf es n) ∧ (∀ y, y ∉ names → getL y es = some none) ∧
      ∃ vs, names.map (fun x => getL x es) = vs.map (fun v => some (some v)) ∧ RepL c h N vs vals
  | v, .sd D => ∃ a o, v = .ref a ∧ ¬ N a ∧ h.get? a = some o ∧ TabObj (strKind c.prog c.w) PyData.str D o
  | v, .raw u => v = u
def RepL (c : Cx) (h : Heap) (N : Addr → Prop) : List Value → List V → Prop
  | vs, [] => vs = []
  | vs, x :: xs => ∃ v r, vs = v :: r ∧ Rep c h N v x ∧ RepL c h N r xs
end

section
variable {c : Cx} {h h' : Heap} {N N' : Addr → Prop}
mutual
theorem Rep.mono2 (hk : ∀ b o, ¬ N b → h.get? b = some o → ¬ N' b ∧ h'.get? b = some o) : ∀ {x : V} {v : Value}, Rep c h N v x → Rep c h' N' v x
  | .none, _, r => by simpa only [Rep] using r
  | .bool _, _, r => by simpa only [Rep] using r
  | .int _, _, r => by simpa only [Rep] using r
  | .str _, _, r => by simpa only [Rep] using r
  | .raw _, _, r => by simpa only [Rep] using r
  | .tup l, _, r => by
    simp only [Rep] at r ⊢
    obtain ⟨a, vs, e, na, ⟨o, ho, q⟩, q2⟩ := r
    exact ⟨a, vs, e, (hk _ _ na ho).1, ⟨o, (hk _ _ na ho).2, q⟩, RepL.mono2 hk q2⟩
  | .list l, _, r => by
    simp only [Rep] at r ⊢
    obtain ⟨a, vs, e, na, ⟨n, ho⟩, q2⟩ := r
    exact ⟨a, vs, e, (hk _ _ na ho).1, ⟨n, (hk _ _ na ho).2⟩, RepL.mono2 hk q2⟩
  | .arg l, _, r => by
    simp only [Rep] at r ⊢
    obtain ⟨a, vs, e, na, ⟨o, ho, q⟩, q2⟩ := r
    exact ⟨a, vs, e, (hk _ _ na ho).1, ⟨o, (hk _ _ na ho).2, q⟩, q2⟩
  | .rng _ _, _, r => by
    simp only [Rep] at r ⊢
    obtain ⟨a, t, u, u', e, na, q⟩ := r
    exact ⟨a, t, u, u', e, (hk _ _ na q).1, (hk _ _ na q).2⟩
  | .obj C names vals, _, r => by
    simp only [Rep] at r ⊢
    obtain ⟨a, dx, es, n, e, na, nd, q1, q2, q5, vs, q3, q4⟩ := r
    exact ⟨a, dx, es, n, e, (hk _ _ na q1).1, (hk _ _ nd q2).1, (hk _ _ na q1).2, (hk _ _ nd q2).2, q5, vs, q3, RepL.mono2 hk q4⟩
  | .sd l, _, r => by
    simp only [Rep] at r ⊢
    obtain ⟨a, o, e, na, q1, q2⟩ := r
    exact ⟨a, o, e, (hk _ _ na q1).1, (hk _ _ na q1).2, q2⟩
theorem RepL.mono2 (hk : ∀ b o, ¬ N b → h.get? b = some o → ¬ N' b ∧ h'.get? b = some o) : ∀ {xs : List V} {vs : List Value}, RepL c h N vs xs → RepL c h' N' vs xs
  | [], _, r => by simpa only [RepL] using r
  | x :: xs, _, r => by
    simp only [RepL] at r ⊢
    obtain ⟨v, q, e, r1, r2⟩ := r
    exact ⟨v, q, e, Rep.mono2 hk r1, RepL.mono2 hk r2⟩
end
theorem Rep.mono (hk : ∀ b o, ¬ N b → h.get? b = some o → h'.get? b = some o) (hn : ∀ b, N' b → N b) {x : V} {v : Value} (r : Rep c h N v x) : Rep c h' N' v x := r.mono2 fun b o n e => ⟨fun z => n (hn b z), hk b o n e⟩
theorem RepL.mono (hk : ∀ b o, ¬ N b → h.get? b = some o → h'.get? b = some o) (hn : ∀ b, N' b → N b) {xs : List V} {vs : List Value} (r : RepL c h N vs xs) : RepL c h' N' vs xs := r.mono2 fun b o n e => ⟨fun z => n (hn b z), hk b o n e⟩
theorem Rep.ext {x : V} {v : Value} (r : Rep c h N v x) (k : Ext h h') : Rep c h' N v x := r.mono (fun b o _ e => k b o e) fun _ e => e
theorem RepL.ext {xs : List V} {vs : List Value} (r : RepL c h N vs xs) (k : Ext h h') : RepL c h' N vs xs := r.mono (fun b o _ e => k b o e) fun _ e => e
theorem Rep.weak {x : V} {v : Value} (r : Rep c h N v x) (hn : ∀ b, N' b → N b) : Rep c h N' v x := r.mono (fun _ _ _ e => e) hn
theorem RepL.length : ∀ {xs : List V} {vs : List Value}, RepL c h N vs xs → vs.length = xs.length
  | [], _, r => by simp only [RepL] at r; simp [r]
  | x :: xs, _, r => by
    simp only [RepL] at r
    obtain ⟨v, q, rfl, _, r2⟩ := r
    simp [r2.length]
theorem RepL.get : ∀ {xs : List V} {vs : List Value}, RepL c h N vs xs → ∀ {i : Nat} {x : V}, xs[i]? = some x → ∃ v, vs[i]? = some v ∧ Rep c h N v x
  | [], _, _, i, x, e => by simp at e
  | y :: xs, _, r, i, x, e => by
    simp only [RepL] at r
    obtain ⟨v, q, rfl, r1, r2⟩ := r
    cases i with
    | zero => simp at e; subst e; exact ⟨v, rfl, r1⟩
    | succ i => simpa using r2.get (by simpa using e)
theorem RepL.get' {xs : List V} {vs : List Value} (r : RepL c h N vs xs) {i : Nat} {v : Value} (e : vs[i]? = some v) : ∃ x, xs[i]? = some x ∧ Rep c h N v x := by
  have hl : i < vs.length := by
    rcases Nat.lt_or_ge i vs.length with q | q
    · exact q
    · rw [List.getElem?_eq_none q] at e; cases e
  have hi : i < xs.length := r.length ▸ hl
  obtain ⟨v', e', r'⟩ := r.get (List.getElem?_eq_getElem hi)
  rw [e] at e'; cases e'
  exact ⟨_, List.getElem?_eq_getElem hi, r'⟩
theorem RepL.append : ∀ {xs ys : List V} {vs us : List Value}, RepL c h N vs xs → RepL c h N us ys → RepL c h N (vs ++ us) (xs ++ ys)
  | [], ys, _, us, r, r' => by simp only [RepL] at r; subst r; exact r'
  | x :: xs, ys, _, us, r, r' => by
    simp only [RepL] at r
    obtain ⟨v, q, rfl, r1, r2⟩ := r
    show RepL c h N (v :: (q ++ us)) (x :: (xs ++ ys))
    rw [RepL]
    exact ⟨v, q ++ us, rfl, r1, r2.append r'⟩
theorem RepL.nil : RepL c h N [] [] := by rw [RepL]
theorem RepL.cons {x : V} {xs : List V} {v : Value} {vs : List Value} (r : Rep c h N v x) (r' : RepL c h N vs xs) : RepL c h N (v :: vs) (x :: xs) := by rw [RepL]; exact ⟨v, vs, rfl, r, r'⟩
theorem RepL.of_get : ∀ {xs : List V} {vs : List Value}, vs.length = xs.length → (∀ (i : Nat) v x, vs[i]? = some v → xs[i]? = some x → Rep c h N v x) → RepL c h N vs xs
  | [], [], _, _ => RepL.nil
  | x :: xs, v :: vs, e, q => RepL.cons (q 0 v x rfl rfl) (RepL.of_get (by simpa using e) fun i u y a b => q (i + 1) u y (by simpa using a) (by simpa using b))
  | [], _ :: _, e, _ => by simp at e
  | _ :: _, [], e, _ => by simp at e
end

structure Room (d : Nat) (A : Around) : Prop where
  handled : A.handled = none
  depth : A.depth + d < recursionLimit
  units : A.units + 10 * d + 100 < cLine
theorem Room.le {d d' : Nat} {A : Around} (r : Room d A) (h : d' ≤ d) : Room d' A := ⟨r.handled, by have := r.depth; omega, by have := r.units; omega⟩
theorem Room.deeper {d : Nat} {A : Around} {env : Env} (r : Room (d + 1) A) : Room d (A.deeper env) :=
  ⟨r.handled, by have := r.depth; show A.depth + 1 + d < _; omega, by have := r.units; show A.units + 3 + 10 * d + 100 < _; omega⟩

inductive Slot where
  | val (x : V)
  | own (l : List V)
abbrev Store := Str → Option Slot
abbrev Store.set (σ : Store) (x : Str) (S : Slot) : Store := fun y => if y = x then some S else σ y

/-- where a name's value lies -/
def At (env : Env) (m : Str → Option Value) (h : Heap) (x : Str) (v : Value) : Prop :=
  (env.kindOf x = some .local ∧ m x = some v) ∨ ((env.kindOf x = some .cell ∨ env.kindOf x = some .free) ∧ ∃ cl, env.cells.lookup x = some cl ∧ h.IsCell cl (some v))

def SlotOk (c : Cx) (H : Heap) (N : Addr → Prop) (env : Env) (h : Heap) (v : Value) : Slot → Prop
  | .val x => Rep c h N v x
  | .own l => ∃ a vs, v = .ref a ∧ N a ∧ H.get? a = none ∧ a ≠ env.locals ∧ (∀ x cl, env.cells.lookup x = some cl → cl ≠ a) ∧ h.PlainList a vs.toArray ∧ RepL c h N vs l

structure St (c : Cx) (H : Heap) (X N : Addr → Prop) (env : Env) (s : Shared) (σ : Store) : Prop where
  tok : 0 ≤ s.toks
  ok : c.Ok H
  kH : Ext H s.heap
  sup : ∀ a, X a → N a
  nX : ∀ a, N a → X a ∨ H.get? a = none
  alive : ∀ a, N a → ∃ o, s.heap.get? a = some o
  lN : N env.locals
  lH : H.get? env.locals = none
  kind : env.scope.kind = .function
  glob : env.globals = mainGlobals
  blt : env.builtins = builtinsNs
  cells : ∀ x cl, env.cells.lookup x = some cl → N cl ∧ cl ≠ env.locals ∧ ∃ v, s.heap.IsCell cl v
  capart : ∀ x y cl, env.cells.lookup x = some cl → env.cells.lookup y = some cl → x = y
  fr : ∃ m, s.heap.Ns env.locals m ∧ (∀ x S, σ x = some S → ∃ v, At env m s.heap x v ∧ SlotOk c H N env s.heap v S) ∧
    ∀ x y lx ly a, σ x = some (.own lx) → σ y = some (.own ly) → At env m s.heap x (.ref a) → At env m s.heap y (.ref a) → x = y

theorem SlotOk.ext {c : Cx} {H : Heap} {N : Addr → Prop} {env : Env} {h h' : Heap} {v : Value} {S : Slot} (x : SlotOk c H N env h v S) (k : Ext h h') : SlotOk c H N env h' v S := by
  cases S with
  | val x' => exact Rep.ext x k
  | own l =>
    obtain ⟨a, vs, e1, e2, e3, e4, e5, ⟨n, ho⟩, e7⟩ := x
    exact ⟨a, vs, e1, e2, e3, e4, e5, ⟨n, k _ _ ho⟩, e7.ext k⟩
theorem At.ext {env : Env} {m : Str → Option Value} {h h' : Heap} {x : Str} {v : Value} (q : At env m h x v) (k : Ext h h') : At env m h' x v := by
  rcases q with q | ⟨q, cl, e, r⟩
  · exact .inl q
  · exact .inr ⟨q, cl, e, r.keeps k⟩
/-- what At says back from a later heap: the cells are the same ones -/
theorem At.back {env : Env} {m : Str → Option Value} {h h' : Heap} {x : Str} {v : Value} (q : At env m h' x v) (k : Ext h h') (hc : ∀ cl, env.cells.lookup x = some cl → ∃ v, h.IsCell cl v) : At env m h x v := by
  rcases q with q | ⟨q, cl, e, r⟩
  · exact .inl q
  · refine .inr ⟨q, cl, e, ?_⟩
    obtain ⟨v', o, ho, hd⟩ := hc cl e
    obtain ⟨o', ho', hd'⟩ := r
    have := k _ _ ho
    rw [ho'] at this; cases this
    exact ⟨_, ho, hd'⟩

theorem St.ext {c : Cx} {H : Heap} {X N : Addr → Prop} {env : Env} {s : Shared} {σ : Store} (S : St c H X N env s σ) {h' : Heap} {tk : Nat} (k : Ext s.heap h') (ht : 0 ≤ tk) : St c H X N env { s with heap := h', toks := tk } σ where
  tok := ht
  ok := S.ok
  kH := S.kH.trans k
  sup := S.sup
  nX := S.nX
  alive := fun a ha => let ⟨o, e⟩ := S.alive a ha; ⟨o, k _ _ e⟩
  lN := S.lN
  lH := S.lH
  kind := S.kind
  glob := S.glob
  blt := S.blt
  cells := fun x cl e => let ⟨a, b, v, q⟩ := S.cells x cl e; ⟨a, b, v, q.keeps k⟩
  capart := S.capart
  fr := by
    obtain ⟨m, n, q, r⟩ := S.fr
    refine ⟨m, n.keeps k, fun x T e => ?_, fun x y lx ly a ex ey ax ay => ?_⟩
    · obtain ⟨v, a, b⟩ := q x T e
      exact ⟨v, a.ext k, b.ext k⟩
    · exact r x y lx ly a ex ey (ax.back k fun cl e => (S.cells x cl e).2.2) (ay.back k fun cl e => (S.cells y cl e).2.2)

/-- a tree that makes a value and keeps all that is there -/
def Mk (c : Cx) (d : Nat) (N : Addr → Prop) (s : Shared) (t : Sem Value) (Φ : V → Prop) : Prop :=
  ∀ A (Q : Value → Shared → Prop), Room d A →
    (∀ v x h' tk, Ext s.heap h' → 0 ≤ tk → Rep c h' N v x → Φ x → Q v { s with heap := h', toks := tk }) → wpAny c.M A t Q (fun _ _ => False) s
/-- an expression -/
structure EvE (c : Cx) (d : Nat) (env : Env) (σ : Store) (e : Expr) (Φ : V → Prop) : Prop where
  run : ∀ H X N s, St c H X N env s σ → Mk c d N s (eval e env) Φ
/-- what an operation over represented values needs -/
structure Av (c : Cx) (N : Addr → Prop) (s : Shared) : Prop where
  ok : c.Ok s.heap
  tok : 0 ≤ s.toks
  alive : ∀ a, N a → ∃ o, s.heap.get? a = some o
theorem St.av {c : Cx} {H : Heap} {X N : Addr → Prop} {env : Env} {s : Shared} {σ : Store} (S : St c H X N env s σ) : Av c N s := ⟨S.ok.keeps S.kH, S.tok, S.alive⟩
theorem Av.fresh {c : Cx} {N : Addr → Prop} {s : Shared} (a : Av c N s) : ¬ N s.heap.objs.size := fun h => by
  obtain ⟨o, e⟩ := a.alive _ h
  exact absurd (Heap.lt_size e) (Nat.lt_irrefl _)
def Op1 (c : Cx) (d : Nat) (t : Value → Sem Value) (x : V) (Φ : V → Prop) : Prop := ∀ N s v, Av c N s → Rep c s.heap N v x → Mk c d N s (t v) Φ
def Op2 (c : Cx) (d : Nat) (t : Value → Value → Sem Value) (x y : V) (Φ : V → Prop) : Prop := ∀ N s v u, Av c N s → Rep c s.heap N v x → Rep c s.heap N u y → Mk c d N s (t v u) Φ
def OpL (c : Cx) (d : Nat) (t : List Value → Sem Value) (xs : List V) (Φ : V → Prop) : Prop := ∀ N s vs, Av c N s → RepL c s.heap N vs xs → Mk c d N s (t vs) Φ
theorem Mk.mono {c : Cx} {d : Nat} {N : Addr → Prop} {s : Shared} {t : Sem Value} {Φ Ψ : V → Prop} (h : Mk c d N s t Φ) (i : ∀ x, Φ x → Ψ x) : Mk c d N s t Ψ :=
  fun A Q r q => h A Q r fun v x h' tk a b cc e => q v x h' tk a b cc (i x e)
/-- toks never fall -/
theorem toks1 {c : Cx} {A : Around} {s : Shared} {t : Sem Value} {Q : Value → Shared → Prop} (ht : 0 ≤ s.toks) (h : wpAny c.M A t (fun v s' => 0 ≤ s'.toks → Q v s') (fun _ _ => False) s) : wpAny c.M A t Q (fun _ _ => False) s :=
  wpAny_mono (wpAny_toks_of ht h) (fun _ _ q => q.2 q.1) fun _ _ q => q.2
end Mine

namespace Mine
section
variable {c : Cx} {d : Nat} {env : Env} {σ : Store} {Φ : V → Prop}

theorem EvE.mono {e : Expr} {Ψ : V → Prop} (h : EvE c d env σ e Φ) (i : ∀ x, Φ x → Ψ x) : EvE c d env σ e Ψ := .mk fun H X N s S => (h.run H X N s S).mono i

theorem Mk.now {N : Addr → Prop} {s : Shared} {t : Sem Value} {x : V} (hx : Φ x) (ht : 0 ≤ s.toks)
    (h : ∀ A (Q : Value → Shared → Prop), Room d A → (∀ v h' tk, Ext s.heap h' → Rep c h' N v x → Q v { s with heap := h', toks := tk }) → wpAny c.M A t Q (fun _ _ => False) s) : Mk c d N s t Φ :=
  fun A Q r q => toks1 ht (h A _ r fun v h' tk k rp ht' => q v x h' tk k ht' rp hx)

theorem ev_int {i : Int} {k : Nat} {pos : Pos} (h : Φ (.int i)) : EvE c d env σ (.Constant (.int i) k pos) Φ := .mk fun _ _ N s S =>
  Mk.now h S.tok fun A Q _ q => wpAny_Constant_int (q _ _ _ (Ext.refl _) (by rw [Rep]; exact ⟨_, rfl⟩))
theorem ev_str {x : Str} {k : Nat} {pos : Pos} (h : Φ (.str x.cps.toList)) : EvE c d env σ (.Constant (.str x) k pos) Φ := .mk fun _ _ N s S =>
  Mk.now h S.tok fun A Q _ q => wpAny_Constant_str (q _ _ _ (Ext.refl _) (by rw [Rep]; exact ⟨_, rfl⟩))
theorem ev_bool {b : Bool} {k : Nat} {pos : Pos} (h : Φ (.bool b)) : EvE c d env σ (.Constant (.bool b) k pos) Φ := .mk fun _ _ N s S =>
  Mk.now h S.tok fun A Q _ q => fun _ _ _ => q _ _ _ (Ext.refl _) (by rw [Rep])

/-- a name of the frame -/
theorem St.load {H : Heap} {X N : Addr → Prop} {s : Shared} (S : St c H X N env s σ) {x : Str} {T : Slot} (e : σ x = some T) (hc : (x == ("__classdict__" : Str)) = false) {A : Around} {Q : Value → Shared → Prop} {E : Value → Shared → Prop}
    (h : ∀ v, SlotOk c H N env s.heap v T → Q v s) : wpAny c.M A (loadName env x) Q E s := by
  obtain ⟨m, n, q, _⟩ := S.fr
  obtain ⟨v, a, b⟩ := q x T e
  rcases a with ⟨a1, a2⟩ | ⟨a1 | a1, cl, a2, a3⟩
  · exact wpAny_loadName_local S.kind a1 n a2 (h v b)
  · exact wpAny_loadName_cell S.kind a1 a2 a3 (h v b)
  · exact wpAny_loadName_free S.kind a1 a2 a3 (h v b) hc

theorem ev_name {x : Str} {pos : Pos} {y : V} (e : σ x = some (.val y)) (h : Φ y) (hd : (x == ("__debug__" : Str)) = false := by decide) (hc : (x == ("__classdict__" : Str)) = false := by decide) : EvE c d env σ (.Name x pos) Φ := .mk fun _ _ N s S =>
  Mk.now h S.tok fun A Q _ q => wpAny_Name (S.load e hc fun v b => q v s.heap s.toks (Ext.refl _) b) hd

theorem ev_glob {x : Str} {pos : Pos} {v : Value} (hk : env.kindOf x = some .globalImplicit) (e : nsIn c.K mainGlobals x = some (some v)) (h : Φ (.raw v)) (hd : (x == ("__debug__" : Str)) = false := by decide) : EvE c d env σ (.Name x pos) Φ := .mk fun _ _ N s S =>
  Mk.now h S.tok fun A Q _ q => by
    have ok := S.av.ok
    refine Name_function_global S.kind hk (loadGlobal_global (mg := c.mg) (by rw [S.glob]; exact ok.T.g) (mg_of ok.K ok.T.g e) (q v s.heap s.toks (Ext.refl _) (by rw [Rep]))) hd
theorem ev_glob_str {x : Str} {pos : Pos} {y : Str} {t : Tok} (hk : env.kindOf x = some .globalImplicit) (e : nsIn c.K mainGlobals x = some (some (.str y t))) (h : Φ (.str y.cps.toList)) (hd : (x == ("__debug__" : Str)) = false := by decide) : EvE c d env σ (.Name x pos) Φ := .mk fun _ _ N s S =>
  Mk.now h S.tok fun A Q _ q => by
    have ok := S.av.ok
    refine Name_function_global S.kind hk (loadGlobal_global (mg := c.mg) (by rw [S.glob]; exact ok.T.g) (mg_of ok.K ok.T.g e) (q _ s.heap s.toks (Ext.refl _) (by rw [Rep]; exact ⟨_, rfl⟩))) hd
theorem ev_blt {x : Str} {pos : Pos} {v : Value} (hk : env.kindOf x = some .globalImplicit) (e : nsIn c.K mainGlobals x = some none) (hv : bootBuiltins x = some v) (h : Φ (.raw v)) (hn : x ≠ "__name__" := by decide) (hd : (x == ("__debug__" : Str)) = false := by decide) : EvE c d env σ (.Name x pos) Φ := .mk fun _ _ N s S =>
  Mk.now h S.tok fun A Q _ q => by
    have ok := S.av.ok
    refine Name_function_global S.kind hk (loadGlobal_builtin (mg := c.mg) (mb := c.mb) (by rw [S.glob]; exact ok.T.g) (mg_none_of ok.K ok.T.g e) (by rw [S.blt]; exact ok.T.b) ((ok.T.builtins x hn).trans hv) (q v s.heap s.toks (Ext.refl _) (by rw [Rep]))) hd

theorem ev_binop {l r : Expr} {op : Operator} {pos : Pos} (h : EvE c d env σ l fun a => EvE c d env σ r fun b => Op2 c d (binaryOp op) a b Φ) : EvE c d env σ (.BinOp l op r pos) Φ := .mk fun H X N s S A Q R q =>
  wpAny_BinOp (h.run H X N s S A _ R fun va a h' tk k ht ra ha => ha.run H X N _ (S.ext k ht) A _ R fun vb b h'' tk' k' ht' rb hb =>
    hb N _ va vb ((S.ext k ht).ext k' ht').av (ra.ext k') rb A _ R fun v x h3 tk3 k3 ht3 rx hx => q v x h3 tk3 (k.trans (k'.trans k3)) ht3 rx hx)

theorem ev_unary {x : Expr} {op : UnaryOp} {pos : Pos} (h : EvE c d env σ x fun a => Op1 c d (unaryOp op) a Φ) : EvE c d env σ (.UnaryOp op x pos) Φ := .mk fun H X N s S A Q R q => by
  show wpAny c.M A (eval x env >>= fun v => standAt pos >>= fun _ => holding [v] (unaryOp op v)) Q _ s
  exact wpAny_bind (h.run H X N s S A _ R fun va a h' tk k ht ra ha => wpAny_bind (wpAny_standAt (wpAny_holding (ha N _ va (S.ext k ht).av ra A _ R fun v x h3 tk3 k3 ht3 rx hx => q v x h3 tk3 (k.trans k3) ht3 rx hx))))

theorem ev_cmp {l r : Expr} {op : CmpOp} {pos : Pos} (h : EvE c d env σ l fun a => EvE c d env σ r fun b => Op2 c d (compareOp op) a b Φ) (hm : behindInMarks op r = false := by with_unfolding_all rfl) : EvE c d env σ (.Compare l [op] [r] pos) Φ := .mk fun H X N s S A Q R q =>
  wpAny_Compare1 (h.run H X N s S A _ R fun va a h' tk k ht ra ha => ha.run H X N _ (S.ext k ht) A _ R fun vb b h'' tk' k' ht' rb hb =>
    hb N _ va vb ((S.ext k ht).ext k' ht').av (ra.ext k') rb A _ R fun v x h3 tk3 k3 ht3 rx hx => q v x h3 tk3 (k.trans (k'.trans k3)) ht3 rx hx) hm

/-! truth -/
def MkB (c : Cx) (d : Nat) (s : Shared) (t : Sem Bool) (Φ : Bool → Prop) : Prop :=
  ∀ A (Q : Bool → Shared → Prop), Room d A → (∀ b h' tk, Ext s.heap h' → 0 ≤ tk → Φ b → Q b { s with heap := h', toks := tk }) → wpAny c.M A t Q (fun _ _ => False) s
structure EvT (c : Cx) (d : Nat) (env : Env) (σ : Store) (e : Expr) (Φ : Bool → Prop) : Prop where
  run : ∀ H X N s, St c H X N env s σ → MkB c d s (isTrue e env (eval e env)) Φ
def OpT (c : Cx) (d : Nat) (x : V) (Φ : Bool → Prop) : Prop := ∀ N s v, Av c N s → Rep c s.heap N v x → MkB c d s (truthy v) Φ
theorem toks1B {A : Around} {s : Shared} {t : Sem Bool} {Q : Bool → Shared → Prop} (ht : 0 ≤ s.toks) (h : wpAny c.M A t (fun v s' => 0 ≤ s'.toks → Q v s') (fun _ _ => False) s) : wpAny c.M A t Q (fun _ _ => False) s :=
  wpAny_mono (wpAny_toks_of ht h) (fun _ _ q => q.2 q.1) fun _ _ q => q.2

theorem tt_bool {b : Bool} {Φ : Bool → Prop} (h : Φ b) : OpT c d (.bool b) Φ := fun N s v a r A Q _ q => by
  simp only [Rep] at r; subst r
  exact wpAny_truthy_bool (q b s.heap s.toks (Ext.refl _) a.tok h)
theorem tt_int {i : Int} {Φ : Bool → Prop} (h : Φ (i != 0)) : OpT c d (.int i) Φ := fun N s v a r A Q _ q => by
  simp only [Rep] at r; obtain ⟨t, rfl⟩ := r
  exact PySem.P.truthy_int (q _ s.heap s.toks (Ext.refl _) a.tok h)
theorem tt_str {x : List Nat} {Φ : Bool → Prop} (hs : x.length ≤ sizeLine) (h : Φ (x.length != 0)) : OpT c d (.str x) Φ := fun N s v a r A Q _ q => by
  simp only [Rep] at r; obtain ⟨t, rfl⟩ := r
  have e1 : sizeLine = 16777216 := by decide
  have e2 : (Str.mk x.toArray).length = x.length := by simp [Str.length]
  refine PySem.P.truthy_str (by omega) ?_
  rw [e2]
  have e : ((x.length : Int) != 0) = (x.length != 0) := by cases hx : x.length <;> rfl
  rw [e]
  exact q _ s.heap _ (Ext.refl _) (by omega) h

theorem et_plain {e : Expr} {Φ : Bool → Prop} (h : EvE c d env σ e fun x => OpT c d x Φ) (he : ∀ env w, isTrue e env w = (do let v ← w; standAt e.pos; holding [v] (truthy v)) := by intro _ _; rfl) : EvT c d env σ e Φ := .mk fun H X N s S A Q R q => by
  rw [he]
  exact wpAny_bind (h.run H X N s S A _ R fun v x h' tk k ht r hx => wpAny_bind (wpAny_standAt (wpAny_holding (hx N _ v (S.ext k ht).av r A _ R fun b h2 tk2 k2 ht2 hb => q b h2 tk2 (k.trans k2) ht2 hb))))
theorem et_not {x : Expr} {pos : Pos} {Φ : Bool → Prop} (h : EvT c d env σ x fun b => Φ (!b)) : EvT c d env σ (.UnaryOp .Not x pos) Φ := .mk fun H X N s S A Q R q => by
  show wpAny c.M A (isTrue x env (eval x env) >>= fun b => pure (!b)) Q _ s
  exact wpAny_bind (h.run H X N s S A _ R fun b h' tk k ht hb => wpAny_pure (q _ h' tk k ht hb))
theorem et_cmp {l r : Expr} {op : CmpOp} {pos : Pos} {Φ : Bool → Prop} (h : EvE c d env σ l fun a => EvE c d env σ r fun b => Op2 c d (compareOp op) a b fun x => OpT c d x Φ) (hm : behindInMarks op r = false := by with_unfolding_all rfl) : EvT c d env σ (.Compare l [op] [r] pos) Φ := .mk fun H X N s S A Q R q =>
  wpAny_isTrue_Compare1 (h.run H X N s S A _ R fun va a h' tk k ht ra ha => ha.run H X N _ (S.ext k ht) A _ R fun vb b h'' tk' k' ht' rb hb =>
    hb N _ va vb ((S.ext k ht).ext k' ht').av (ra.ext k') rb A _ R fun v x h3 tk3 k3 ht3 rx hx => hx N _ v (((S.ext k ht).ext k' ht').ext k3 ht3).av rx A _ R fun b h4 tk4 k4 ht4 hb => q b h4 tk4 (k.trans (k'.trans (k3.trans k4))) ht4 hb) hm
/-- two comparisons in a chain -/
theorem et_cmp2 {l r r' : Expr} {op op' : CmpOp} {pos : Pos} {Φ : Bool → Prop} (h : EvE c d env σ l fun a => EvE c d env σ r fun b => Op2 c d (compareOp op) a b fun x => OpT c d x fun t => if t = true then EvE c d env σ r' fun b' => Op2 c d (compareOp op') b b' fun x => OpT c d x Φ else Φ false)
    (hm : behindInMarks op r = false := by with_unfolding_all rfl) (hm' : behindInMarks op' r' = false := by with_unfolding_all rfl) (hlast : markedEach [op, op'] [r, r'] (evalEach [r, r'] env) = [eval r env, eval r' env] := by with_unfolding_all rfl) : EvT c d env σ (.Compare l [op, op'] [r, r'] pos) Φ := .mk fun H X N s S A Q R q => by
  show wpAny c.M A (eval l env >>= fun a => testChain pos a [op, op'] (markedEach [op, op'] [r, r'] (evalEach [r, r'] env))) Q _ s
  rw [hlast]
  refine wpAny_bind (h.run H X N s S A _ R fun va a h' tk k ht ra ha => ?_)
  show wpAny c.M A (do
    let rv ← holding [va] (eval r env)
    standAt pos
    let cc ← holding [va, rv] (compareOp op va rv)
    release [va, rv] [cc]
    if ← holding [cc, rv] (truthy cc) then testChain pos rv [op'] [eval r' env] else pure false) Q _ _
  have S1 := S.ext k ht
  refine wpAny_bind (wpAny_holding (ha.run H X N _ S1 A _ R fun vb b h2 tk2 k2 ht2 rb hb => ?_))
  have S2 := S1.ext k2 ht2
  refine wpAny_bind (wpAny_standAt (wpAny_bind (wpAny_holding (hb N _ va vb S2.av (ra.ext k2) rb A _ R fun v x h3 tk3 k3 ht3 rx hx => ?_))))
  have S3 := S2.ext k3 ht3
  refine wpAny_bind (wpAny_release' ?_)
  refine wpAny_bind (wpAny_holding (hx N _ v S3.av rx A _ R fun t h4 tk4 k4 ht4 ht => ?_))
  have S4 := S3.ext k4 ht4
  cases t with
  | false => simp only [Bool.false_eq_true, if_false] at ht ⊢; exact wpAny_pure (q false h4 tk4 (k.trans (k2.trans (k3.trans k4))) ht4 ht)
  | true =>
    simp only [if_true] at ht ⊢
    show wpAny c.M A (do
      let rv ← holding [vb] (eval r' env)
      standAt pos
      let cc ← operate [vb, rv] (compareOp op' vb rv)
      holding [cc] (truthy cc)) Q _ _
    refine wpAny_bind (wpAny_holding (ht.run H X N _ S4 A _ R fun vc b' h5 tk5 k5 ht5 rc hc => ?_))
    have S5 := S4.ext k5 ht5
    refine wpAny_bind (wpAny_standAt (wpAny_bind (wpAny_operate' (hc N _ vb vc S5.av (rb.ext (k3.trans (k4.trans k5))) rc A _ R fun v' x' h6 tk6 k6 ht6 rx' hx' => ?_))))
    exact wpAny_holding (hx' N _ v' (S5.ext k6 ht6).av rx' A _ R fun b7 h7 tk7 k7 ht7 hb7 => q b7 h7 tk7 (k.trans (k2.trans (k3.trans (k4.trans (k5.trans (k6.trans k7)))))) ht7 hb7)

theorem et_and {a b : Expr} {pos : Pos} {Φ : Bool → Prop} (h : EvT c d env σ a fun t => if t = true then EvT c d env σ b Φ else Φ false) : EvT c d env σ (.BoolOp .And [a, b] pos) Φ := .mk fun H X N s S A Q R q => by
  show wpAny c.M A (isTrue a env (eval a env) >>= fun t => match BoolOp.And, t with | .And, false => pure false | .Or, true => pure true | _, _ => (isTrue b env (eval b env) >>= fun t => match BoolOp.And, t with | .And, false => pure false | .Or, true => pure true | _, _ => pure (BoolOp.And == .And))) Q _ s
  refine wpAny_bind (h.run H X N s S A _ R fun t h' tk k ht hb => ?_)
  cases t with
  | false => simp only [Bool.false_eq_true, if_false] at hb; exact wpAny_pure (q _ h' tk k ht hb)
  | true =>
    simp only [if_true] at hb
    refine wpAny_bind (hb.run H X N _ (S.ext k ht) A _ R fun t2 h2 tk2 k2 ht2 hb2 => ?_)
    cases t2 with
    | false => exact wpAny_pure (q _ h2 tk2 (k.trans k2) ht2 hb2)
    | true => exact wpAny_pure (q _ h2 tk2 (k.trans k2) ht2 hb2)
theorem et_or {a b : Expr} {pos : Pos} {Φ : Bool → Prop} (h : EvT c d env σ a fun t => if t = true then Φ true else EvT c d env σ b Φ) : EvT c d env σ (.BoolOp .Or [a, b] pos) Φ := .mk fun H X N s S A Q R q => by
  show wpAny c.M A (isTrue a env (eval a env) >>= fun t => match BoolOp.Or, t with | .And, false => pure false | .Or, true => pure true | _, _ => (isTrue b env (eval b env) >>= fun t => match BoolOp.Or, t with | .And, false => pure false | .Or, true => pure true | _, _ => pure (BoolOp.Or == .And))) Q _ s
  refine wpAny_bind (h.run H X N s S A _ R fun t h' tk k ht hb => ?_)
  cases t with
  | true => simp only [if_true] at hb; exact wpAny_pure (q _ h' tk k ht hb)
  | false =>
    simp only [Bool.false_eq_true, if_false] at hb
    refine wpAny_bind (hb.run H X N _ (S.ext k ht) A _ R fun t2 h2 tk2 k2 ht2 hb2 => ?_)
    cases t2 with
    | false => exact wpAny_pure (q _ h2 tk2 (k.trans k2) ht2 hb2)
    | true => exact wpAny_pure (q _ h2 tk2 (k.trans k2) ht2 hb2)

theorem ev_ifexp {t a b : Expr} {pos : Pos} (h : EvT c d env σ t fun z => if z = true then EvE c d env σ a Φ else EvE c d env σ b Φ) : EvE c d env σ (.IfExp t a b pos) Φ := .mk fun H X N s S A Q R q => by
  show wpAny c.M A (isTrue t env (eval t env) >>= fun z => if z = true then eval a env else eval b env) Q _ s
  refine wpAny_bind (h.run H X N s S A _ R fun z h' tk k ht hb => ?_)
  cases z with
  | false => simp only [Bool.false_eq_true, if_false] at hb ⊢; exact hb.run H X N _ (S.ext k ht) A _ R fun v x h2 tk2 k2 ht2 r hx => q v x h2 tk2 (k.trans k2) ht2 r hx
  | true => simp only [if_true] at hb ⊢; exact hb.run H X N _ (S.ext k ht) A _ R fun v x h2 tk2 k2 ht2 r hx => q v x h2 tk2 (k.trans k2) ht2 r hx

/-- `a and b` as a value -/
theorem ev_and {a b : Expr} {pos : Pos} (h : EvE c d env σ a fun x => OpT c d x fun t => if t = true then EvE c d env σ b Φ else Φ x) : EvE c d env σ (.BoolOp .And [a, b] pos) Φ := .mk fun H X N s S A Q R q => by
  show wpAny c.M A (eval a env >>= fun v => standAt pos >>= fun _ => holding [v] (truthy v) >>= fun t => match BoolOp.And, t with | .And, false | .Or, true => pure v | _, _ => eval b env) Q _ s
  refine wpAny_bind (h.run H X N s S A _ R fun v x h' tk k ht r hb => wpAny_bind (wpAny_standAt (wpAny_bind (wpAny_holding ?_))))
  refine hb N _ v (S.ext k ht).av r A _ R fun t h2 tk2 k2 ht2 hb2 => ?_
  cases t with
  | false => simp only [Bool.false_eq_true, if_false] at hb2; exact wpAny_pure (q _ x h2 tk2 (k.trans k2) ht2 (r.ext k2) hb2)
  | true => simp only [if_true] at hb2; exact hb2.run H X N _ ((S.ext k ht).ext k2 ht2) A _ R fun v x h3 tk3 k3 ht3 r hx => q v x h3 tk3 (k.trans (k2.trans k3)) ht3 r hx

/-! arguments -/
structure EvL (c : Cx) (d : Nat) (env : Env) (σ : Store) (es : List Expr) (Φ : List V → Prop) : Prop where
  run : ∀ H X N s pos A (Q : List Value → Shared → Prop), St c H X N env s σ → Room d A →
    (∀ vs xs h' tk, Ext s.heap h' → 0 ≤ tk → RepL c h' N vs xs → Φ xs → Q vs { s with heap := h', toks := tk }) → wpAny c.M A (spliced (backTo pos (starEach es env))) Q (fun _ _ => False) s
theorem el_nil {Φ : List V → Prop} (h : Φ []) : EvL c d env σ [] Φ := .mk fun H X N s pos A Q S R q => spliced_none (q [] [] s.heap s.toks (Ext.refl _) S.tok RepL.nil h)
theorem el_cons {e : Expr} {es : List Expr} {Φ : List V → Prop} (h : EvE c d env σ e fun x => EvL c d env σ es fun xs => Φ (x :: xs)) (he : starEach (e :: es) env = (false, eval e env) :: starEach es env := by rfl) : EvL c d env σ (e :: es) Φ := .mk fun H X N s pos A Q S R q =>
  spliced_more (h.run H X N s S A _ R fun v x h' tk k ht r hx => hx.run H X N _ pos A _ (S.ext k ht) R fun vs xs h2 tk2 k2 ht2 r2 h3 => q (v :: vs) (x :: xs) h2 tk2 (k.trans k2) ht2 (RepL.cons (r.ext k2) r2) h3) he

theorem ev_list {es : List Expr} {pos : Pos} (h : EvL c d env σ es fun xs => xs.length ≤ sizeLine ∧ Φ (.list xs)) : EvE c d env σ (.List es pos) Φ := .mk fun H X N s S A Q R q =>
  List_ (h.run H X N s pos A _ S R fun vs xs h' tk k ht r hx => wpAny_newObj_type (q (.ref h'.objs.size) (.list xs) _ tk (k.trans (Ext.push _ _)) ht (by
      rw [Rep]; exact ⟨_, vs, rfl, (S.ext k ht).av.fresh, ⟨_, Heap.get?_push_size _ rfl⟩, r.ext (Ext.push _ _)⟩) hx.2) (by show vs.toArray.size ≤ sizeLine; rw [List.size_toArray, r.length]; exact hx.1))
theorem ev_tuple {es : List Expr} {k : Nat} {pos : Pos} (h : EvL c d env σ es fun xs => xs.length ≤ sizeLine ∧ Φ (.tup xs)) : EvE c d env σ (.Tuple es k pos) Φ := .mk fun H X N s S A Q R q =>
  Tuple_ (h.run H X N s pos A _ S R fun vs xs h' tk k ht r hx => wpAny_newObj_type (q (.ref h'.objs.size) (.tup xs) _ tk (k.trans (Ext.push _ _)) ht (by
      rw [Rep]; exact ⟨_, vs, rfl, (S.ext k ht).av.fresh, ⟨_, Heap.get?_push_size _ rfl, rfl, _, rfl⟩, r.ext (Ext.push _ _)⟩) hx.2) (by show vs.toArray.size ≤ sizeLine; rw [List.size_toArray, r.length]; exact hx.1))
end
end Mine

namespace Mine
section
variable {c : Cx} {d : Nat} {env : Env} {σ : Store} {H : Heap} {X N : Addr → Prop} {s : Shared}

/-- the frame's cells are its own -/
def FnE (H : Heap) (env : Env) : Prop := ∀ x cl, env.cells.lookup x = some cl → H.get? cl = none
def Kept (env : Env) (x : Str) : Prop := env.kindOf x = some .local ∨ (env.kindOf x = some .cell ∧ ∃ cl, env.cells.lookup x = some cl)
def KeptH (H : Heap) (env : Env) (x : Str) : Prop := env.kindOf x = some .local ∨ (env.kindOf x = some .cell ∧ ∃ cl, env.cells.lookup x = some cl ∧ H.get? cl = none)
theorem Kept.at {H : Heap} {env : Env} {x : Str} (k : Kept env x) (hF : FnE H env) : KeptH H env x := k.imp id fun ⟨a, cl, e⟩ => ⟨a, cl, e, hF x cl e⟩

theorem SlotOk.but {h h' : Heap} {v : Value} {T : Slot} {q : Addr} (x : SlotOk c H N env h v T) (hq : N q) (hc : q = env.locals ∨ ∃ y, env.cells.lookup y = some q) (hs : Heap.SameBut q h h') : SlotOk c H N env h' v T := by
  have up : ∀ b o, ¬ N b → h.get? b = some o → h'.get? b = some o := fun b o nb e => hs.extBut b o (fun z => nb (z ▸ hq)) e
  cases T with
  | val x' => exact Rep.mono up (fun _ z => z) x
  | own l =>
    obtain ⟨a, vs, e1, e2, e3, e4, e5, ⟨n, ho⟩, e7⟩ := x
    refine ⟨a, vs, e1, e2, e3, e4, e5, ⟨n, hs.extBut a _ ?_ ho⟩, e7.mono up (fun _ z => z)⟩
    rcases hc with rfl | ⟨y, hy⟩
    · exact e4
    · exact fun z => e5 y q hy z.symm

theorem St.put (S : St c H X N env s σ) {x : Str} (hk : KeptH H env x) {v : Value} {T : Slot} (hT : SlotOk c H N env s.heap v T)
    (hd : ∀ l, T = .own l → ∀ a, v = .ref a → ∀ y ly m, y ≠ x → σ y = some (.own ly) → s.heap.Ns env.locals m → ¬ At env m s.heap y (.ref a))
    {A : Around} {Q : Unit → Shared → Prop} {E : Value → Shared → Prop}
    (h : ∀ h' tk, 0 ≤ tk → (∀ b o, b ≠ env.locals → (∀ y, env.cells.lookup y ≠ some b) → s.heap.get? b = some o → h'.get? b = some o) → St c H X N env { s with heap := h', toks := tk } (σ.set x T) → Q () { s with heap := h', toks := tk }) : wpAny c.M A (storeName env x v) Q E s := by
  obtain ⟨m, n, q, r⟩ := S.fr
  rcases hk with hl | ⟨hl, cl, hcl, hclH⟩
  · refine wpAny_storeName_local hl n (fun h' hn hs => ?_) (by rw [S.kind]; rfl)
    have up : ∀ b o, b ≠ env.locals → s.heap.get? b = some o → h'.get? b = some o := fun b o nb e => hs.extBut b o nb e
    have at' : ∀ y u, y ≠ x → At env m s.heap y u → At env (fun z => if z = x then some v else m z) h' y u := fun y u hy a => by
      rcases a with ⟨a1, a2⟩ | ⟨a1, cy, a2, a3⟩
      · exact .inl ⟨a1, by simpa [hy] using a2⟩
      · exact .inr ⟨a1, cy, a2, a3.sameBut hs (S.cells y cy a2).2.1⟩
    have back : ∀ y u, y ≠ x → At env (fun z => if z = x then some v else m z) h' y u → At env m s.heap y u := fun y u hy a => by
      rcases a with ⟨a1, a2⟩ | ⟨a1, cy, a2, a3⟩
      · exact .inl ⟨a1, by simpa [hy] using a2⟩
      · obtain ⟨v', o, ho, hd'⟩ := (S.cells y cy a2).2.2
        obtain ⟨o', ho', hd''⟩ := a3
        have := up _ _ (S.cells y cy a2).2.1 ho
        rw [ho'] at this; cases this
        exact .inr ⟨a1, cy, a2, ⟨_, ho, hd''⟩⟩
    have ax : At env (fun z => if z = x then some v else m z) h' x v := .inl ⟨hl, by simp⟩
    refine h h' _ (Nat.le_succ_of_le S.tok) (fun b o nb _ e => up b o nb e) ⟨Nat.le_succ_of_le S.tok, S.ok, fun b o e => up b o (fun z => by rw [z, S.lH] at e; cases e) (S.kH b o e), S.sup, S.nX, fun a ha => ?_, S.lN, S.lH, S.kind, S.glob, S.blt,
      fun y cy e => let ⟨e1, e2, u, e3⟩ := S.cells y cy e; ⟨e1, e2, u, e3.sameBut hs e2⟩, S.capart, _, hn, fun y U e => ?_, fun y z ly lz a ey ez ay az => ?_⟩
    · by_cases ha' : a = env.locals
      · obtain ⟨o, _, _, ho, _⟩ := hn; exact ⟨o, ha' ▸ ho⟩
      · obtain ⟨o, ho⟩ := S.alive a ha; exact ⟨o, up a o ha' ho⟩
    · by_cases hy : y = x
      · subst hy
        simp only [Store.set, if_true] at e
        cases e
        exact ⟨v, ax, hT.but S.lN (.inl rfl) hs⟩
      · simp only [Store.set, if_neg hy] at e
        obtain ⟨u, a, b⟩ := q y U e
        exact ⟨u, at' y u hy a, b.but S.lN (.inl rfl) hs⟩
    · by_cases hy : y = x <;> by_cases hz : z = x
      · rw [hy, hz]
      · exfalso
        simp only [Store.set, if_neg hz] at ez
        subst hy
        simp only [Store.set, if_true] at ey
        have hv : v = .ref a := by
          rcases ay with ⟨_, a2⟩ | ⟨a1, _⟩
          · simpa using a2
          · rw [hl] at a1; rcases a1 with a1 | a1 <;> cases a1
        exact hd ly (Option.some.inj ey) a hv z lz m hz ez n (back z _ hz az)
      · exfalso
        simp only [Store.set, if_neg hy] at ey
        subst hz
        simp only [Store.set, if_true] at ez
        have hv : v = .ref a := by
          rcases az with ⟨_, a2⟩ | ⟨a1, _⟩
          · simpa using a2
          · rw [hl] at a1; rcases a1 with a1 | a1 <;> cases a1
        exact hd lz (Option.some.inj ez) a hv y ly m hy ey n (back y _ hy ay)
      · simp only [Store.set, if_neg hy] at ey
        simp only [Store.set, if_neg hz] at ez
        exact r y z ly lz a ey ez (back y _ hy ay) (back z _ hz az)
  · obtain ⟨cN, cL, v0, cI⟩ := S.cells x cl hcl
    refine wpAny_storeName_cell S.kind hl hcl cI fun h' hc' hs => ?_
    have up : ∀ b o, b ≠ cl → s.heap.get? b = some o → h'.get? b = some o := fun b o nb e => hs.extBut b o nb e
    have hce : ∃ y, env.cells.lookup y = some cl := ⟨x, hcl⟩
    have at' : ∀ y u, y ≠ x → At env m s.heap y u → At env m h' y u := fun y u hy a => by
      rcases a with ⟨a1, a2⟩ | ⟨a1, cy, a2, a3⟩
      · exact .inl ⟨a1, a2⟩
      · exact .inr ⟨a1, cy, a2, a3.sameBut hs fun z => hy (S.capart y x cl (z ▸ a2) hcl)⟩
    have back : ∀ y u, y ≠ x → At env m h' y u → At env m s.heap y u := fun y u hy a => by
      rcases a with ⟨a1, a2⟩ | ⟨a1, cy, a2, a3⟩
      · exact .inl ⟨a1, a2⟩
      · have hne : cy ≠ cl := fun z => hy (S.capart y x cl (z ▸ a2) hcl)
        obtain ⟨v', o, ho, hd'⟩ := (S.cells y cy a2).2.2
        obtain ⟨o', ho', hd''⟩ := a3
        have := up _ _ hne ho
        rw [ho'] at this; cases this
        exact .inr ⟨a1, cy, a2, ⟨_, ho, hd''⟩⟩
    have ax : At env m h' x v := .inr ⟨.inl hl, cl, hcl, hc'⟩
    have only : ∀ a, At env m h' x (.ref a) → v = .ref a := fun a q => by
      rcases q with ⟨a1, _⟩ | ⟨_, c2, a2, a3⟩
      · rw [hl] at a1; cases a1
      · rw [hcl] at a2; cases a2
        obtain ⟨o, ho, hd1⟩ := a3
        obtain ⟨o2, ho2, hd2⟩ := hc'
        rw [ho] at ho2; cases ho2
        rw [hd1] at hd2; cases hd2; rfl
    have hst : ({ s with heap := h' } : Shared) = { s with heap := h', toks := s.toks } := rfl
    rw [hst]
    refine h h' s.toks S.tok (fun b o _ nb e => up b o (fun z => nb x (z ▸ hcl)) e) ⟨S.tok, S.ok, fun b o e => up b o (fun z => by rw [z, hclH] at e; cases e) (S.kH b o e), S.sup, S.nX, fun a ha => ?_, S.lN, S.lH, S.kind, S.glob, S.blt,
      fun y cy e => ?_, S.capart, m, n.sameBut hs (Ne.symm cL), fun y U e => ?_, fun y z ly lz a ey ez ay az => ?_⟩
    · by_cases ha' : a = cl
      · obtain ⟨o, ho, _⟩ := hc'; exact ⟨o, ha' ▸ ho⟩
      · obtain ⟨o, ho⟩ := S.alive a ha; exact ⟨o, up a o ha' ho⟩
    · obtain ⟨e1, e2, u, e3⟩ := S.cells y cy e
      by_cases hy : cy = cl
      · exact ⟨e1, e2, _, hy ▸ hc'⟩
      · exact ⟨e1, e2, u, e3.sameBut hs hy⟩
    · by_cases hy : y = x
      · subst hy
        simp only [Store.set, if_true] at e
        cases e
        exact ⟨v, ax, hT.but cN (.inr hce) hs⟩
      · simp only [Store.set, if_neg hy] at e
        obtain ⟨u, a, b⟩ := q y U e
        exact ⟨u, at' y u hy a, b.but cN (.inr hce) hs⟩
    · by_cases hy : y = x <;> by_cases hz : z = x
      · rw [hy, hz]
      · exfalso
        simp only [Store.set, if_neg hz] at ez
        subst hy
        simp only [Store.set, if_true] at ey
        exact hd ly (Option.some.inj ey) a (only a ay) z lz m hz ez n (back z _ hz az)
      · exfalso
        simp only [Store.set, if_neg hy] at ey
        subst hz
        simp only [Store.set, if_true] at ez
        exact hd lz (Option.some.inj ez) a (only a az) y ly m hy ey n (back y _ hy ay)
      · simp only [Store.set, if_neg hy] at ey
        simp only [Store.set, if_neg hz] at ez
        exact r y z ly lz a ey ez (back y _ hy ay) (back z _ hz az)

theorem St.putVal (S : St c H X N env s σ) {x : Str} (hk : KeptH H env x) {v : Value} {y : V} (hT : Rep c s.heap N v y)
    {A : Around} {Q : Unit → Shared → Prop} {E : Value → Shared → Prop}
    (h : ∀ h' tk, 0 ≤ tk → (∀ b o, ¬ N b → s.heap.get? b = some o → h'.get? b = some o) → St c H X N env { s with heap := h', toks := tk } (σ.set x (.val y)) → Q () { s with heap := h', toks := tk }) : wpAny c.M A (storeName env x v) Q E s :=
  S.put hk (T := .val y) hT (fun _ e => nomatch e) fun h' tk ht up S' => h h' tk ht (fun b o nb e => up b o (fun z => nb (z ▸ S.lN)) (fun y e' => nb (S.cells y b e').1) e) S'

/-- a new object that is to be owned -/
theorem St.extOwn (S : St c H X N env s σ) {h' : Heap} {tk : Nat} {a : Addr} (k : Ext s.heap h') (ht : 0 ≤ tk) (ha : s.heap.get? a = none) (ha' : ∃ o, h'.get? a = some o) : St c H X (fun b => N b ∨ b = a) env { s with heap := h', toks := tk } σ := by
  have S' := S.ext k ht
  have up : ∀ b o, ¬ N b → s.heap.get? b = some o → ¬ (N b ∨ b = a) ∧ h'.get? b = some o := fun b o nb e => ⟨fun z => z.elim nb fun z => by { rw [z, ha] at e; cases e }, k b o e⟩
  refine ⟨S'.tok, S'.ok, S'.kH, fun b x => .inl (S'.sup b x), fun b x => x.elim (S'.nX b) fun z => .inr (by { cases e : H.get? b with | none => rfl | some o => have := S.kH _ _ e; rw [z, ha] at this; cases this }), fun b x => x.elim (S'.alive b) fun z => z ▸ ha', .inl S'.lN, S'.lH, S'.kind, S'.glob, S'.blt, fun x cl e => let ⟨e1, e2, e3⟩ := S'.cells x cl e; ⟨.inl e1, e2, e3⟩, S'.capart, ?_⟩
  obtain ⟨m, n, q, r⟩ := S.fr
  refine ⟨m, n.keeps k, fun x T e => ?_, fun x y lx ly b ex ey ax ay => ?_⟩
  · obtain ⟨v, a1, b1⟩ := q x T e
    refine ⟨v, a1.ext k, ?_⟩
    cases T with
    | val x' => exact Rep.mono2 up b1
    | own l =>
      obtain ⟨a2, vs, e1, e2, e3, e4, e5, ⟨n, ho⟩, e7⟩ := b1
      exact ⟨a2, vs, e1, .inl e2, e3, e4, e5, ⟨n, k _ _ ho⟩, e7.mono2 up⟩
  · exact r x y lx ly b ex ey (ax.back k fun cl e => (S.cells x cl e).2.2) (ay.back k fun cl e => (S.cells y cl e).2.2)

/-- store a new list as an owned one: S is the state ahead of the list's making -/
theorem St.putOwn (S : St c H X N env s σ) {x : Str} (hk : KeptH H env x) {h1 : Heap} {tk1 : Nat} (k : Ext s.heap h1) (ht : 0 ≤ tk1) {a : Addr} {vs : List Value} {l : List V} (ha : s.heap.get? a = none) (hl : h1.PlainList a vs.toArray)
    (hr : RepL c h1 (fun b => N b ∨ b = a) vs l)
    {A : Around} {Q : Unit → Shared → Prop} {E : Value → Shared → Prop}
    (h : ∀ h' tk, 0 ≤ tk → St c H X (fun b => N b ∨ b = a) env { s with heap := h', toks := tk } (σ.set x (.own l)) → Q () { s with heap := h', toks := tk }) : wpAny c.M A (storeName env x (.ref a)) Q E { s with heap := h1, toks := tk1 } := by
  have hl' := hl
  obtain ⟨o, ho⟩ := hl'
  have S1 := S.extOwn k ht ha ⟨_, ho⟩
  have hH : H.get? a = none := by
    cases e : H.get? a with
    | none => rfl
    | some o' => have := S.kH _ _ e; rw [ha] at this; cases this
  have hL : a ≠ env.locals := fun e => by obtain ⟨o', e'⟩ := S.alive _ S.lN; rw [← e, ha] at e'; cases e'
  have hC : ∀ x cl, env.cells.lookup x = some cl → cl ≠ a := fun x cl e z => by obtain ⟨_, _, v, o', e', _⟩ := S.cells x cl e; rw [z, ha] at e'; cases e'
  refine S1.put hk (T := .own l) ⟨a, vs, rfl, .inr rfl, hH, hL, hC, hl, hr⟩ (fun l' _ a' e y ly m hy ey n q => ?_) fun h' tk ht' _ S' => h h' tk ht' S'
  cases e
  obtain ⟨m0, n0, q0, _⟩ := S.fr
  have nm : m = m0 := by
    obtain ⟨o1, es1, ep1, g1, d1, _, f1⟩ := n
    obtain ⟨o2, es2, ep2, g2, d2, _, f2⟩ := n0.keeps k
    have : some o1 = some o2 := g1.symm.trans g2
    cases this
    rw [d1] at d2; cases d2
    funext z; rw [← f1, ← f2]
  subst nm
  have q1 : At env m s.heap y (.ref a) := q.back k fun cl e => (S.cells y cl e).2.2
  obtain ⟨u, au, bu⟩ := q0 y _ ey
  obtain ⟨b, us, e1, _, _, _, _, ⟨o', ho'⟩, _⟩ := bu
  subst e1
  have : (Value.ref b) = .ref a := by
    rcases au with ⟨a1, a2⟩ | ⟨a1, c2, a2, o3, a3, a4⟩ <;> rcases q1 with ⟨b1, b2⟩ | ⟨b1, c3, b2, o4, b3, b4⟩
    · rw [a2] at b2; exact Option.some.inj b2
    · rw [a1] at b1; rcases b1 with b1 | b1 <;> cases b1
    · rw [b1] at a1; rcases a1 with a1 | a1 <;> cases a1
    · rw [a2] at b2; cases b2; rw [a3] at b3; cases b3; rw [a4] at b4; cases b4; rfl
  cases this
  rw [ha] at ho'; cases ho'

/-- an owned list is let go as a plain value -/
theorem St.freeze (S : St c H X N env s σ) {x : Str} {l : List V} (e : σ x = some (.own l)) (hX : ∀ b, X b → ∃ o, H.get? b = some o) : ∃ N', St c H X N' env s (σ.set x (.val (.list l))) := by
  obtain ⟨m, n, q, r⟩ := S.fr
  obtain ⟨v, ax, a, vs, rfl, hN, hH, hL, hC, hl, hr⟩ := q x _ e
  have down : ∀ b o, ¬ N b → s.heap.get? b = some o → ¬ (N b ∧ b ≠ a) ∧ s.heap.get? b = some o := fun b o nb e => ⟨fun z => nb z.1, e⟩
  refine ⟨fun b => N b ∧ b ≠ a, S.tok, S.ok, S.kH, fun b hb => ⟨S.sup b hb, fun z => ?_⟩, fun b hb => S.nX b hb.1, fun b hb => S.alive b hb.1, ⟨S.lN, Ne.symm hL⟩, S.lH, S.kind, S.glob, S.blt, fun y cl ey => let ⟨e1, e2, e3⟩ := S.cells y cl ey; ⟨⟨e1, hC y cl ey⟩, e2, e3⟩, S.capart, m, n, fun y T ey => ?_, fun y z ly lz b ey ez ay az => ?_⟩
  · obtain ⟨o, ho⟩ := hX b hb; rw [z, hH] at ho; cases ho
  · by_cases hy : y = x
    · subst hy
      simp only [Store.set, if_true] at ey; cases ey
      refine ⟨.ref a, ax, ?_⟩
      show Rep c s.heap _ _ _
      rw [Rep]
      exact ⟨a, vs, rfl, fun z => z.2 rfl, hl, hr.mono2 down⟩
    · simp only [Store.set, if_neg hy] at ey
      obtain ⟨u, au, bu⟩ := q y T ey
      refine ⟨u, au, ?_⟩
      cases T with
      | val x' => exact Rep.mono2 down bu
      | own l' =>
        obtain ⟨a2, us, rfl, e2, e3, e4, e5, e6, e7⟩ := bu
        exact ⟨a2, us, rfl, ⟨e2, fun z => hy (r y x l' l a ey e (z ▸ au) ax)⟩, e3, e4, e5, e6, e7.mono2 down⟩
  · by_cases hy : y = x
    · subst hy; simp [Store.set] at ey
    · by_cases hz : z = x
      · subst hz; simp [Store.set] at ez
      · simp only [Store.set, if_neg hy] at ey
        simp only [Store.set, if_neg hz] at ez
        exact r y z ly lz b ey ez ay az

/-! statements -/
inductive AF where
  | next (σ : Store)
  | ret (x : V)
  | brk (σ : Store)
  | cont (σ : Store)
def FlOk (c : Cx) (H : Heap) (X : Addr → Prop) (env : Env) : Flow → AF → Shared → Prop
  | .next, .next σ, s => ∃ N, St c H X N env s σ
  | .brk, .brk σ, s => ∃ N, St c H X N env s σ
  | .cont, .cont σ, s => ∃ N, St c H X N env s σ
  | .ret v, .ret x, s => Ext H s.heap ∧ Rep c s.heap X v x
  | _, _, _ => False
structure ExM (c : Cx) (d : Nat) (env : Env) (σ : Store) (t : Sem Flow) (Φ : AF → Prop) : Prop where
  run : ∀ H X N s A (Q : Flow → Shared → Prop), St c H X N env s σ → FnE H env → (∀ b, X b → ∃ o, H.get? b = some o) → Room d A →
    (∀ f a h' tk, 0 ≤ tk → FlOk c H X env f a { s with heap := h', toks := tk } → Φ a → Q f { s with heap := h', toks := tk }) → wpAny c.M A t Q (fun _ _ => False) s
abbrev ExS (c : Cx) (d : Nat) (env : Env) (σ : Store) (ss : List Stmt) (Φ : AF → Prop) : Prop := ExM c d env σ (execs ss env) Φ
abbrev Ex1 (c : Cx) (d : Nat) (env : Env) (σ : Store) (st : Stmt) (Φ : AF → Prop) : Prop := ExM c d env σ (exec st env) Φ
end

section
variable {c : Cx} {d : Nat} {env : Env} {σ : Store} {Φ : AF → Prop}
theorem ExM.mono {t : Sem Flow} {Ψ : AF → Prop} (h : ExM c d env σ t Φ) (i : ∀ a, Φ a → Ψ a) : ExM c d env σ t Ψ := .mk fun H X N s A Q S hF hX R q => h.run H X N s A Q S hF hX R fun f a h' tk ht o p => q f a h' tk ht o (i a p)
theorem ex_nil (h : Φ (.next σ)) : ExS c d env σ [] Φ := .mk fun H X N s A Q S hF hX R q => wpAny_execs_nil (q .next (.next σ) s.heap s.toks S.tok ⟨N, S⟩ h)
def thenS (c : Cx) (d : Nat) (env : Env) (rest : List Stmt) (Φ : AF → Prop) : AF → Prop
  | .next σ' => ExS c d env σ' rest Φ
  | a => Φ a
theorem ex_cons {st : Stmt} {rest : List Stmt} (h : Ex1 c d env σ st (thenS c d env rest Φ)) : ExS c d env σ (st :: rest) Φ := .mk fun H X N s A Q S hF hX R q =>
  wpAny_execs_cons (h.run H X N s A _ S hF hX R fun f a h' tk ht o p => by
    cases f <;> cases a <;> simp only [FlOk] at o
    · obtain ⟨N', S'⟩ := o
      exact p.run H X N' _ A _ S' hF hX R fun f a h2 tk2 ht2 o2 p2 => q f a h2 tk2 ht2 o2 p2
    · exact q .brk (.brk _) h' tk ht o p
    · exact q .cont (.cont _) h' tk ht o p
    · exact q (.ret _) (.ret _) h' tk ht o p)
theorem ex_freeze {x : Str} {l : List V} {t : Sem Flow} (e : σ x = some (.own l)) (h : ExM c d env (σ.set x (.val (.list l))) t Φ) : ExM c d env σ t Φ := .mk fun H X N s A Q S hF hX R q => by
  obtain ⟨N', S'⟩ := S.freeze e hX
  exact h.run H X N' s A Q S' hF hX R q
/-- a name's slot may be forgotten or looked at anew -/
theorem ex_view {σ' : Store} {t : Sem Flow} (hv : ∀ x T, σ' x = some T → σ x = some T) (h : ExM c d env σ' t Φ) : ExM c d env σ t Φ := .mk fun H X N s A Q S hF hX R q => by
  refine h.run H X N s A Q ⟨S.tok, S.ok, S.kH, S.sup, S.nX, S.alive, S.lN, S.lH, S.kind, S.glob, S.blt, S.cells, S.capart, ?_⟩ hF hX R q
  obtain ⟨m, n, a, b⟩ := S.fr
  exact ⟨m, n, fun x T e => a x T (hv x T e), fun x y lx ly z ex ey => b x y lx ly z (hv _ _ ex) (hv _ _ ey)⟩

theorem ex_assign {x : Str} {p pos : Pos} {e : Expr} (hk : Kept env x) (h : EvE c d env σ e fun y => Φ (.next (σ.set x (.val y)))) (hs : swapsWith e (some (.Name x p)) pos.line env = pure false := by rfl) : Ex1 c d env σ (.Assign [.Name x p] e pos) Φ := .mk fun H X N s A Q S hF hX R q =>
  wpAny_Assign_Name (h.run H X N s S A _ R fun v y h' tk k ht r hy => (S.ext k ht).putVal (hk.at hF) r fun h2 tk2 ht2 _ S2 => q .next (.next _) h2 tk2 ht2 ⟨N, S2⟩ hy) hs
theorem ex_return {e : Expr} {pos : Pos} (h : EvE c d env σ e fun y => Φ (.ret y)) : Ex1 c d env σ (.Return (some e) pos) Φ := .mk fun H X N s A Q S hF hX R q => by
  rw [exec_Return_some]
  exact wpAny_bind (wpAny_standAt (wpAny_bind (h.run H X N s S A _ R fun v y h' tk k ht r hy => wpAny_pure (q (.ret v) (.ret y) h' tk ht ⟨S.kH.trans k, r.weak S.sup⟩ hy))))
theorem ex_if {t : Expr} {a b : List Stmt} {pos : Pos} (h : EvT c d env σ t fun z => if z = true then ExS c d env σ a Φ else ExS c d env σ b Φ) : Ex1 c d env σ (.If t a b pos) Φ := .mk fun H X N s A Q S hF hX R q =>
  wpAny_If (h.run H X N s S A _ R fun z h' tk k ht hz => by
    cases z with
    | true => simp only [if_true] at hz ⊢; exact hz.run H X N _ A _ (S.ext k ht) hF hX R fun f a h2 tk2 ht2 o p => q f a h2 tk2 ht2 o p
    | false => simp only [Bool.false_eq_true, if_false] at hz ⊢; exact hz.run H X N _ A _ (S.ext k ht) hF hX R fun f a h2 tk2 ht2 o p => q f a h2 tk2 ht2 o p)
theorem ex_break {pos : Pos} (h : Φ (.brk σ)) : Ex1 c d env σ (.Break pos) Φ := .mk fun H X N s A Q S hF hX R q => wpAny_Break (q .brk (.brk _) s.heap s.toks S.tok ⟨N, S⟩ h)
theorem ex_assert {t : Expr} {m : Option Expr} {pos : Pos} (h : EvT c d env σ t fun z => z = true ∧ Φ (.next σ)) : Ex1 c d env σ (.Assert t m pos) Φ := .mk fun H X N s A Q S hF hX R q =>
  wpAny_Assert_holds (h.run H X N s S A _ R fun z h' tk k ht hz => ⟨hz.1, q .next (.next _) h' tk ht ⟨N, S.ext k ht⟩ hz.2⟩)
theorem ex_try {body : List Stmt} {h0 : ExceptHandler} {hs : List ExceptHandler} {pos : Pos} (h : ExS c d env σ body Φ) : Ex1 c d env σ (.Try body (h0 :: hs) [] [] pos) Φ := .mk fun H X N s A Q S hF hX R q =>
  wpAny_Try_except (wpAny_mono (h.run H X N s A Q S hF hX R q) (fun f s1 h1 => by cases f <;> first | exact wpAny_execs_nil h1 | exact h1) fun _ _ e => e.elim)
theorem ex_aug {x : Str} {p pos : Pos} {op : Operator} {e : Expr} {y : V} (hk : Kept env x) (hy : σ x = some (.val y)) (h : EvE c d env σ e fun z => Op2 c d (inplaceOp op) y z fun u => Φ (.next (σ.set x (.val u)))) (hc : (x == ("__classdict__" : Str)) = false := by decide) : Ex1 c d env σ (.AugAssign (.Name x p) op e pos) Φ := .mk fun H X N s A Q S hF hX R q =>
  wpAny_AugAssign_Name (S.load hy hc fun v b => h.run H X N s S A _ R fun vz z h' tk k ht r hz => hz N _ v vz (S.ext k ht).av (Rep.ext b k) r A _ R fun vu u h2 tk2 k2 ht2 r2 hu =>
    ((S.ext k ht).ext k2 ht2).putVal (hk.at hF) r2 fun h3 tk3 ht3 _ S3 => q .next (.next _) h3 tk3 ht3 ⟨N, S3⟩ hu)
end

/-! functions -/
/-- a call of the text's own function, or of any other value, as a law over represented values -/
abbrev Fn (c : Cx) (d : Nat) (f : Value) (args : List V) (Φ : V → Prop) : Prop := OpL c d (fun vs => call f vs) args Φ
def bindS : List Str → List V → Store
  | n :: ns, x :: xs => (bindS ns xs).set n (.val x)
  | _, _ => fun _ => none
end Mine

namespace Mine

theorem bindL_eq (k : Str → Option NameKind) : ∀ (ns : List Str) (vs : List Value) (m : Str → Option Value) (y : Str), ns.Nodup → bindL k (ns.zip vs) m y = (match (ns.zip vs).lookup y with | some v => if k y = some .local then some v else m y | none => m y)
  | [], vs, m, y, _ => by simp [bindL]
  | _ :: _, [], m, y, _ => by simp [bindL]
  | n :: ns, v :: vs, m, y, hn => by
    have hn' := List.nodup_cons.mp hn
    rw [List.zip_cons_cons, bindL, bindL_eq k ns vs _ y hn'.2, List.lookup_cons]
    by_cases hy : y = n
    · subst hy
      have : (ns.zip vs).lookup y = none := by
        cases e : (ns.zip vs).lookup y with
        | none => rfl
        | some u => exact absurd (List.of_mem_zip (mem_of_lookup e)).1 hn'.1
      rw [this]
      simp only [beq_self_eq_true]
      by_cases hk : k y = some .local
      · simp [hk]
      · simp [hk]
    · have hb : (y == n) = false := by simpa using hy
      rw [hb]
      by_cases hk : k n = some .local
      · simp [hk, hy]
      · simp [hk]
theorem bindC_eq (k : Str → Option NameKind) : ∀ (ns : List Str) (vs : List Value) (m : Str → Option Value) (y : Str), ns.Nodup → bindC k (ns.zip vs) m y = (match (ns.zip vs).lookup y with | some v => if k y = some .local then m y else some v | none => m y)
  | [], vs, m, y, _ => by simp [bindC]
  | _ :: _, [], m, y, _ => by simp [bindC]
  | n :: ns, v :: vs, m, y, hn => by
    have hn' := List.nodup_cons.mp hn
    rw [List.zip_cons_cons, bindC, bindC_eq k ns vs _ y hn'.2, List.lookup_cons]
    by_cases hy : y = n
    · subst hy
      have : (ns.zip vs).lookup y = none := by
        cases e : (ns.zip vs).lookup y with
        | none => rfl
        | some u => exact absurd (List.of_mem_zip (mem_of_lookup e)).1 hn'.1
      rw [this]
      simp only [beq_self_eq_true]
      by_cases hk : k y = some .local
      · simp [hk]
      · simp [hk]
    · have hb : (y == n) = false := by simpa using hy
      rw [hb]
      by_cases hk : k n = some .local
      · simp [hk]
      · simp [hk, hy]
theorem bindS_some {c : Cx} {h : Heap} {N : Addr → Prop} : ∀ {ns : List Str} {xs : List V} {vs : List Value} {y : Str} {T : Slot}, RepL c h N vs xs → bindS ns xs y = some T → ∃ v x, T = .val x ∧ (ns.zip vs).lookup y = some v ∧ Rep c h N v x
  | [], _, _, _, _, _, e => by simp [bindS] at e
  | _ :: _, [], _, _, _, _, e => by simp [bindS] at e
  | n :: ns, x :: xs, vs, y, T, r, e => by
    rw [RepL] at r
    obtain ⟨v, us, rfl, r1, r2⟩ := r
    simp only [bindS, Store.set] at e
    rw [List.zip_cons_cons, List.lookup_cons]
    by_cases hy : y = n
    · subst hy
      simp only [if_true] at e; cases e
      exact ⟨v, x, rfl, by simp, r1⟩
    · simp only [if_neg hy] at e
      have hb : (y == n) = false := by simpa using hy
      obtain ⟨u, z, e1, e2, e3⟩ := bindS_some (ns := ns) r2 e
      exact ⟨u, z, e1, by rw [hb]; exact e2, e3⟩

section
variable {c : Cx} {d : Nat} {Φ : V → Prop}
def retS (Φ : V → Prop) : AF → Prop
  | .ret x => Φ x
  | .next _ => Φ .none
  | _ => False
theorem fn_body {f : Addr} {fd : FuncData} {oc : Value} {od : Option Addr} {osl : Array (Option Value)} {body : List Stmt} {names : List Str} {args : List V}
    (ho : c.K.lookup f = some ⟨oc, od, .func fd, osl⟩) (hb : fd.body = .stmts body) (hcl : fd.closure = []) (hcd : codeIn c.K fd.code fd.qualname = true)
    (hbind : ∀ vs : List Value, vs.length = names.length → bindArgs fd ⟨vs, []⟩ = pure (names.zip vs)) (hlen : args.length = names.length) (hnd : names.Nodup)
    (hkind : (names.all fun y => fd.scope.names.lookup y == some .local || fd.scope.names.lookup y == some .cell) = true)
    (hg : fd.globals = mainGlobals) (hbl : fd.builtins = builtinsNs) (hco : fd.scope.isCoroutine = false) (hgen : fd.scope.isGenerator = false) (hk : fd.scope.kind = .function)
    (h : ∀ L, ExS c d (callEnvC fd L f) (bindS names args) body (retS Φ)) : Fn c (d + 1) (.ref f) args Φ := by
  intro N s vs av rl A Q R q
  have hvl : vs.length = names.length := rl.length.trans hlen
  refine wpAny_call (codeAny_call_function (by have := R.depth; omega) (av.ok.K _ _ ho) rfl hco hgen hb (codeRec_of av.ok.K hcd) ?_)
  rw [hbind vs hvl, hcl]
  refine wpAny_pure ?_
  have hkind' := kindsX (scope := fd.scope) (binds := names.zip vs) (by
    rw [List.all_eq_true] at hkind ⊢
    intro y hy
    exact hkind y.1 (List.of_mem_zip hy).1) (s.heap.objs.size + 1)
  refine wpAny_mono (wpAny_toks_of av.tok (wpAny_newFunctionEnv_cells (E := fun _ _ => False) (Q := fun env s' => env = callEnvC fd s.heap.objs.size f ∧ InCallC s env.locals (bindL env.kindOf (names.zip vs) fun _ => none) env.cells (bindC env.kindOf (names.zip vs) fun _ => none) s') hk hkind' fun env he s' x => ⟨he, x⟩)) (fun env s' z => ?_) fun _ _ z => z.2.elim
  obtain ⟨htk, rfl, x⟩ := z
  refine ⟨av.ok.T.nolimit.keeps x.toInCall.keep, codeAny_func ?_⟩
  obtain ⟨h₁, tk, rfl, _⟩ := x.done
  have hkH : Ext s.heap h₁ := x.toInCall.keep
  let L := s.heap.objs.size
  let env := callEnvC fd L f
  have hLnone : s.heap.get? L = none := Heap.get?_none_of_le (Nat.le_refl _)
  have above : ∀ n cl, env.cells.lookup n = some cl → L < cl := fun n cl e => x.above n cl (mem_of_lookup e)
  have hS : St c s.heap N (fun a => N a ∨ a = L ∨ ∃ n, env.cells.lookup n = some a) env { s with heap := h₁, toks := tk } (bindS names args) := by
    refine ⟨htk, av.ok, hkH, fun a ha => .inl ha, fun a ha => ha.elim .inl fun ha => .inr (ha.elim (fun z => z ▸ hLnone) fun ⟨n, hn⟩ => Heap.get?_none_of_le (Nat.le_of_lt (above n a hn))), fun a ha => ?_, .inr (.inl rfl), hLnone, hk, hg, hbl, fun y cl e => ⟨.inr (.inr ⟨y, e⟩), Nat.ne_of_gt (above y cl e), _, x.cell y cl e⟩,
      fun y z cl ey ez => name_of_addr x.apart (mem_of_lookup ey) (mem_of_lookup ez), _, x.toInCall.ns, fun y T e => ?_, fun y z ly lz a ey => ?_⟩
    · rcases ha with ha | rfl | ⟨n, ha⟩
      · obtain ⟨o, e⟩ := av.alive a ha; exact ⟨o, hkH _ _ e⟩
      · obtain ⟨o, _, _, e, _⟩ := x.toInCall.ns; exact ⟨o, e⟩
      · obtain ⟨o, e, _⟩ := x.cell n a ha; exact ⟨o, e⟩
    · obtain ⟨v, z, rfl, e1, r⟩ := bindS_some rl e
      refine ⟨v, ?_, Rep.mono2 (fun b o nb e => ⟨fun w => ?_, hkH _ _ e⟩) r⟩
      · have hm : y ∈ names := (List.of_mem_zip (mem_of_lookup e1)).1
        rcases hkind' (y, v) (mem_of_lookup e1) with hl | ⟨hl, hc⟩
        · refine .inl ⟨hl, ?_⟩
          rw [bindL_eq _ names vs _ y hnd, e1]
          have : env.kindOf y = some .local := hl
          simp [env, L] at this ⊢
          simp [this]
        · obtain ⟨cl, hc⟩ := Option.isSome_iff_exists.mp hc
          refine .inr ⟨.inl hl, cl, hc, ?_⟩
          have := x.cell y cl hc
          rw [bindC_eq _ names vs _ y hnd, e1] at this
          have hk2 : env.kindOf y = some .cell := hl
          simp [env, L] at hk2
          simpa [hk2] using this
      · rcases w with w | rfl | ⟨n, w⟩
        · exact nb w
        · rw [hLnone] at e; cases e
        · exact absurd (Heap.lt_size e) (Nat.not_lt.mpr (Nat.le_of_lt (above n b w)))
    · obtain ⟨_, z, e, _⟩ := bindS_some rl ey; cases e
  have hF : FnE s.heap env := fun y cl e => Heap.get?_none_of_le (Nat.le_of_lt (above y cl e))
  refine wpAny_mono ((h L).run s.heap N _ _ (A.deeper env) (fun f s' => match f with | .ret v => Q v s' | .next => Q .none s' | _ => False) hS hF (fun b hb => av.alive b hb) R.deeper fun f a h' tk' ht' o p => ?_) (fun f s' z => ?_) fun _ _ z => z.elim
  · cases f <;> cases a <;> simp only [FlOk, retS] at o p
    · obtain ⟨N', S'⟩ := o
      exact q .none .none h' tk' S'.kH ht' (by rw [Rep]) p
    · exact q _ _ h' tk' o.1 ht' o.2 p
  · cases f with
    | ret v => exact z
    | next => exact z
    | brk => exact z.elim
    | cont => exact z.elim
end
end Mine

namespace Mine
/-! plain functions over texts as lists -/
abbrev S (l : List Nat) : Str := ⟨l.toArray⟩
theorem S_len (l : List Nat) : (S l).length = l.length := by simp [Str.length]
theorem S_toList (x : Str) : S x.cps.toList = x := by obtain ⟨⟨l⟩⟩ := x; rfl
theorem S_inj {a b : List Nat} (h : S a = S b) : a = b := by simpa [S] using h
def atL (x y : List Nat) (i : Nat) : Bool := (x.drop i).take y.length == y
def okL (x y : List Nat) (hi i : Nat) : Bool := decide (i + y.length ≤ hi) && atL x y i
def findL (x y : List Nat) (lo hi : Nat) : Option Nat := (List.range' lo (hi + 1 - lo)).find? (okL x y hi)
theorem atL_iff (x y : List Nat) (hi i : Nat) : StrLaws.At (S x) (S y) hi i ↔ okL x y hi i = true := by
  unfold StrLaws.At okL atL
  rw [StrLaws.subAt_eq, S_len]
  simp
theorem occ_findL (x y : List Nat) (lo hi : Nat) : Builtin.Str.occurrences (S x) (S y) lo hi 1 = (findL x y lo hi).toList := by
  rw [StrLaws.occ_eq]
  have hlen := StrLaws.occ_length_le (S x) (S y) lo hi 1
  rw [StrLaws.occ_eq] at hlen
  rcases StrLaws.occ_first (S x) (S y) hi 1 (Nat.le_refl _) (List.range' lo (hi + 1 - lo)) lo (fun i h => (List.mem_range'_1.mp h).1) with ⟨h0, hn⟩ | ⟨pre, a, post, e, h0, ha, hn⟩
  · rw [h0]
    have : findL x y lo hi = none := by
      unfold findL
      rw [List.find?_eq_none]
      intro i hi'
      rw [← atL_iff]
      exact hn i hi'
    rw [this]; rfl
  · have h1 : findL x y lo hi = some a := by
      unfold findL
      rw [e, List.find?_append]
      have : pre.find? (okL x y hi) = none := by
        rw [List.find?_eq_none]
        intro i hi'
        rw [← atL_iff]
        exact hn i hi'
      rw [this]
      simp [(atL_iff x y hi a).mp ha]
    rw [h1]
    generalize (forIn (List.range' lo (hi + 1 - lo)) ((#[] : Array Nat), lo) (StrLaws.occBody (S x) (S y) hi 1)).run.fst = arr at h0 hlen
    have h2 : arr.toList[0]? = some a := by simpa using h0
    cases hL : arr.toList with
    | nil => rw [hL] at h2; cases h2
    | cons b t =>
      rw [hL] at h2 hlen
      simp at h2 hlen
      rw [h2, hlen]; rfl

section
variable {c : Cx} {d : Nat} {Φ : V → Prop}
theorem Rep.int {h : Heap} {N : Addr → Prop} (i : Int) (t : Tok) : Rep c h N (.int i t) (.int i) := by rw [Rep]; exact ⟨t, rfl⟩
theorem Rep.bool {h : Heap} {N : Addr → Prop} (b : Bool) : Rep c h N (.bool b) (.bool b) := by rw [Rep]
theorem Rep.str {h : Heap} {N : Addr → Prop} (x : List Nat) (t : Tok) : Rep c h N (.str (S x) t) (.str x) := by rw [Rep]; exact ⟨t, rfl⟩
theorem Rep.str' {h : Heap} {N : Addr → Prop} (x : Str) (t : Tok) : Rep c h N (.str x t) (.str x.cps.toList) := by rw [Rep]; exact ⟨t, congrArg (fun z => Value.str z t) (S_toList x).symm⟩
theorem Rep.toInt {h : Heap} {N : Addr → Prop} {v : Value} {i : Int} (r : Rep c h N v (.int i)) : ∃ t, v = .int i t := by simpa only [Rep] using r
theorem Rep.toStr {h : Heap} {N : Addr → Prop} {v : Value} {x : List Nat} (r : Rep c h N v (.str x)) : ∃ t, v = .str (S x) t := by simpa only [Rep] using r
theorem Rep.toBool {h : Heap} {N : Addr → Prop} {v : Value} {b : Bool} (r : Rep c h N v (.bool b)) : v = .bool b := by simpa only [Rep] using r
theorem Rep.toRaw {h : Heap} {N : Addr → Prop} {v u : Value} (r : Rep c h N v (.raw u)) : v = u := by simpa only [Rep] using r
theorem Rep.toList {h : Heap} {N : Addr → Prop} {v : Value} {l : List V} (r : Rep c h N v (.list l)) : ∃ a vs, v = .ref a ∧ ¬ N a ∧ h.PlainList a vs.toArray ∧ RepL c h N vs l := by simpa only [Rep] using r
theorem Rep.toTup {h : Heap} {N : Addr → Prop} {v : Value} {l : List V} (r : Rep c h N v (.tup l)) : ∃ a vs, v = .ref a ∧ ¬ N a ∧ IsTup h a vs.toArray ∧ RepL c h N vs l := by simpa only [Rep] using r

/-! ints -/
theorem op_add {a b : Int} (h : Φ (.int (a + b))) : Op2 c d (binaryOp .Add) (.int a) (.int b) Φ := fun N s v u av ra rb => by
  obtain ⟨t, rfl⟩ := ra.toInt; obtain ⟨t', rfl⟩ := rb.toInt
  exact Mk.now h av.tok fun A Q _ q => PySem.P.add_int (q _ _ _ (Ext.refl _) (Rep.int _ _))
theorem op_sub {a b : Int} (h : Φ (.int (a - b))) : Op2 c d (binaryOp .Sub) (.int a) (.int b) Φ := fun N s v u av ra rb => by
  obtain ⟨t, rfl⟩ := ra.toInt; obtain ⟨t', rfl⟩ := rb.toInt
  exact Mk.now h av.tok fun A Q _ q => PySem.P.sub_int (q _ _ _ (Ext.refl _) (Rep.int _ _))
theorem op_mul {a b : Int} (h : Φ (.int (a * b))) (hm : IntMulOk a b) : Op2 c d (binaryOp .Mult) (.int a) (.int b) Φ := fun N s v u av ra rb => by
  obtain ⟨t, rfl⟩ := ra.toInt; obtain ⟨t', rfl⟩ := rb.toInt
  exact Mk.now h av.tok fun A Q _ q => PySem.P.mul_int (q _ _ _ (Ext.refl _) (Rep.int _ _)) hm
theorem op_fdiv {a b : Int} (hb : 0 < b) (hs : b < 1073741824) (h : Φ (.int (a / b))) : Op2 c d (binaryOp .FloorDiv) (.int a) (.int b) Φ := fun N s v u av ra rb => by
  obtain ⟨t, rfl⟩ := ra.toInt; obtain ⟨t', rfl⟩ := rb.toInt
  rw [← Int.fdiv_eq_ediv_of_nonneg _ (Int.le_of_lt hb)] at h
  exact Mk.now h av.tok fun A Q _ q => floordiv_int (by omega) (q _ _ _ (Ext.refl _) (Rep.int _ _)) (Or.inl (PyProof.noPylong_small (by omega)))
theorem op_mod {a b : Int} (hb : 0 < b) (h : Φ (.int (a % b))) : Op2 c d (binaryOp .Mod) (.int a) (.int b) Φ := fun N s v u av ra rb => by
  obtain ⟨t, rfl⟩ := ra.toInt; obtain ⟨t', rfl⟩ := rb.toInt
  rw [← Int.fmod_eq_emod_of_nonneg _ (Int.le_of_lt hb)] at h
  exact Mk.now h av.tok fun A Q _ q => mod_int' (by omega) (q _ _ _ (Ext.refl _) (Rep.int _ _))
theorem op_pow {a b : Int} (hb : 0 ≤ b) (hb2 : b ≤ 1000000) (ha : a.natAbs < 2 ^ 64) (h : Φ (.int (a ^ b.toNat))) : Op2 c d (binaryOp .Pow) (.int a) (.int b) Φ := fun N s v u av ra rb => by
  obtain ⟨t, rfl⟩ := ra.toInt; obtain ⟨t', rfl⟩ := rb.toInt
  exact Mk.now h av.tok fun A Q _ q => pow_int_small hb hb2 ha (q _ _ _ (Ext.refl _) (Rep.int _ _))
theorem op_iadd {a b : Int} (h : Φ (.int (a + b))) : Op2 c d (inplaceOp .Add) (.int a) (.int b) Φ := fun N s v u av ra rb => by
  obtain ⟨t, rfl⟩ := ra.toInt; obtain ⟨t', rfl⟩ := rb.toInt
  exact Mk.now h av.tok fun A Q _ q => PySem.P.iadd_int (q _ _ _ (Ext.refl _) (Rep.int _ _))
theorem op_isub {a b : Int} (h : Φ (.int (a - b))) : Op2 c d (inplaceOp .Sub) (.int a) (.int b) Φ := fun N s v u av ra rb => by
  obtain ⟨t, rfl⟩ := ra.toInt; obtain ⟨t', rfl⟩ := rb.toInt
  exact Mk.now h av.tok fun A Q _ q => PySem.P.isub_int (q _ _ _ (Ext.refl _) (Rep.int _ _))
theorem op_neg {a : Int} (h : Φ (.int (-a))) : Op1 c d (unaryOp .USub) (.int a) Φ := fun N s v av ra => by
  obtain ⟨t, rfl⟩ := ra.toInt
  exact Mk.now h av.tok fun A Q _ q => PySem.P.neg_int (q _ _ _ (Ext.refl _) (Rep.int _ _))
theorem op_eq {a b : Int} (h : Φ (.bool (a == b))) : Op2 c d (compareOp .Eq) (.int a) (.int b) Φ := fun N s v u av ra rb => by
  obtain ⟨t, rfl⟩ := ra.toInt; obtain ⟨t', rfl⟩ := rb.toInt
  exact Mk.now h av.tok fun A Q _ q => PySem.P.eq_int (q _ s.heap s.toks (Ext.refl _) (Rep.bool _))
theorem op_ne {a b : Int} (h : Φ (.bool (a != b))) : Op2 c d (compareOp .NotEq) (.int a) (.int b) Φ := fun N s v u av ra rb => by
  obtain ⟨t, rfl⟩ := ra.toInt; obtain ⟨t', rfl⟩ := rb.toInt
  exact Mk.now h av.tok fun A Q _ q => PySem.P.ne_int (q _ s.heap s.toks (Ext.refl _) (Rep.bool _))
theorem op_lt {a b : Int} (h : Φ (.bool (decide (a < b)))) : Op2 c d (compareOp .Lt) (.int a) (.int b) Φ := fun N s v u av ra rb => by
  obtain ⟨t, rfl⟩ := ra.toInt; obtain ⟨t', rfl⟩ := rb.toInt
  exact Mk.now h av.tok fun A Q _ q => PySem.P.lt_int (q _ s.heap s.toks (Ext.refl _) (Rep.bool _))
theorem op_le {a b : Int} (h : Φ (.bool (decide (a ≤ b)))) : Op2 c d (compareOp .LtE) (.int a) (.int b) Φ := fun N s v u av ra rb => by
  obtain ⟨t, rfl⟩ := ra.toInt; obtain ⟨t', rfl⟩ := rb.toInt
  exact Mk.now h av.tok fun A Q _ q => PySem.P.le_int (q _ s.heap s.toks (Ext.refl _) (Rep.bool _))
theorem op_gt {a b : Int} (h : Φ (.bool (decide (b < a)))) : Op2 c d (compareOp .Gt) (.int a) (.int b) Φ := fun N s v u av ra rb => by
  obtain ⟨t, rfl⟩ := ra.toInt; obtain ⟨t', rfl⟩ := rb.toInt
  exact Mk.now h av.tok fun A Q _ q => PySem.P.gt_int (q _ s.heap s.toks (Ext.refl _) (Rep.bool _))
theorem op_ge {a b : Int} (h : Φ (.bool (decide (b ≤ a)))) : Op2 c d (compareOp .GtE) (.int a) (.int b) Φ := fun N s v u av ra rb => by
  obtain ⟨t, rfl⟩ := ra.toInt; obtain ⟨t', rfl⟩ := rb.toInt
  exact Mk.now h av.tok fun A Q _ q => PySem.P.ge_int (q _ s.heap s.toks (Ext.refl _) (Rep.bool _))

/-! texts -/
theorem S_beq (a b : List Nat) : ((S a).cps.toList == (S b).cps.toList) = (a == b) := rfl
theorem op_eqs {a b : List Nat} (h : Φ (.bool (a == b))) : Op2 c d (compareOp .Eq) (.str a) (.str b) Φ := fun N s v u av ra rb => by
  obtain ⟨t, rfl⟩ := ra.toStr; obtain ⟨t', rfl⟩ := rb.toStr
  exact Mk.now h av.tok fun A Q _ q => PySem.P.eq_str (q _ s.heap s.toks (Ext.refl _) (Rep.bool _))
theorem op_nes {a b : List Nat} (h : Φ (.bool (a != b))) : Op2 c d (compareOp .NotEq) (.str a) (.str b) Φ := fun N s v u av ra rb => by
  obtain ⟨t, rfl⟩ := ra.toStr; obtain ⟨t', rfl⟩ := rb.toStr
  exact Mk.now h av.tok fun A Q _ q => PySem.P.ne_str (q _ s.heap s.toks (Ext.refl _) (Rep.bool _))
theorem op_adds {a b : List Nat} (hs : a.length + b.length ≤ sizeLine) (h : Φ (.str (a ++ b))) : Op2 c d (binaryOp .Add) (.str a) (.str b) Φ := fun N s v u av ra rb => by
  obtain ⟨t, rfl⟩ := ra.toStr; obtain ⟨t', rfl⟩ := rb.toStr
  refine Mk.now h av.tok fun A Q _ q => PySem.P.add_str ?_
  split
  · rename_i e
    have : a = [] := by simpa [Str.length] using e
    subst this
    exact q _ s.heap s.toks (Ext.refl _) (Rep.str _ _)
  · split
    · rename_i e
      have : b = [] := by simpa [Str.length] using e
      subst this
      exact q _ s.heap s.toks (Ext.refl _) (by rw [List.append_nil]; exact Rep.str _ _)
    · have e : S a ++ S b = S (a ++ b) := Str.ext' (by rw [Str.cps_append]; simp)
      rw [e]
      exact ⟨by rw [S_len, List.length_append]; exact hs, q _ _ _ (Ext.refl _) (Rep.str _ _)⟩
def repL (n : Nat) (a : List Nat) : List Nat := (List.replicate n a).flatten
theorem foldl_rep (a : List Nat) : ∀ (n : Nat) (b : List Nat), (List.replicate n (S a).cps).foldl (· ++ ·) b.toArray = (b ++ repL n a).toArray
  | 0, b => by simp [repL]
  | n + 1, b => by
    rw [List.replicate_succ, List.foldl_cons]
    have : b.toArray ++ (S a).cps = (b ++ a).toArray := by simp
    rw [this, foldl_rep a n (b ++ a)]
    simp [repL, List.replicate_succ]
theorem txt_mul (a : List Nat) (n : Int) : Txt.mul (S a) n = S (repL n.toNat a) := by
  unfold Txt.mul
  split
  · rename_i h
    have : n.toNat = 0 := by omega
    rw [this]; rfl
  · split
    · rename_i h1 h2
      rw [Bool.or_eq_true] at h2
      rcases h2 with h2 | h2
      · have : n = 1 := by simpa using h2
        subst this
        simp [repL]
      · have : a = [] := by simpa [Str.length] using h2
        subst this
        simp [repL]
    · rename_i h1 h2
      have := foldl_rep a n.toNat []
      simp only [List.nil_append] at this
      exact congrArg Str.mk this
theorem op_muls {a : List Nat} {n : Int} (hs : a.length * n.toNat ≤ sizeLine) (hn : -1000000 ≤ n ∧ n ≤ 1000000) (h : Φ (.str (repL n.toNat a))) : Op2 c d (binaryOp .Mult) (.str a) (.int n) Φ := fun N s v u av ra rb => by
  obtain ⟨t, rfl⟩ := ra.toStr; obtain ⟨t', rfl⟩ := rb.toInt
  refine Mk.now h av.tok fun A Q _ q => SB.mul ⟨?_, fun h1 h2 => ?_, fun h1 h2 => ?_⟩ fun t'' k => ?_
  · simp; omega
  · rw [S_len]
    have e1 : sizeLine = 16777216 := by decide
    have h3 : 0 ≤ n := by omega
    have h4 : a.length * 1 ≤ a.length * n.toNat := Nat.mul_le_mul_left _ (by omega)
    have h5 : (9223372036854775807 : Int) / n ≥ 9223372036854775807 / 1000000 := by
      apply Int.le_ediv_of_mul_le (by omega)
      have : (9223372036854775807 / 1000000 : Int) * n ≤ (9223372036854775807 / 1000000 : Int) * 1000000 := Int.mul_le_mul_of_nonneg_left hn.2 (by decide)
      omega
    have e2 : ((2 : Int) ^ 63 - 1) = 9223372036854775807 := by decide
    rw [e2]
    have e3 : (9223372036854775807 : Int) / 1000000 = 9223372036854 := by decide
    omega
  · rw [S_len]
    unfold Builtin.Str.tooLong
    exact decide_eq_false (by omega)
  · rw [txt_mul]
    exact q _ s.heap k (Ext.refl _) (Rep.str _ _)
theorem op_ins {x y : List Nat} (h : Φ (.bool (findL x y 0 x.length).isSome)) : Op2 c d (compareOp .In) (.str y) (.str x) Φ := fun N s v u av ra rb => by
  obtain ⟨t, rfl⟩ := ra.toStr; obtain ⟨t', rfl⟩ := rb.toStr
  refine Mk.now h av.tok fun A Q _ q => PySem.P.in_str ?_
  rw [S_len, occ_findL]
  have e : (!(findL x y 0 x.length).toList.isEmpty) = (findL x y 0 x.length).isSome := by cases findL x y 0 x.length <;> rfl
  rw [e]
  exact q _ s.heap s.toks (Ext.refl _) (Rep.bool _)
theorem op_nins {x y : List Nat} (h : Φ (.bool (findL x y 0 x.length).isNone)) : Op2 c d (compareOp .NotIn) (.str y) (.str x) Φ := fun N s v u av ra rb => by
  obtain ⟨t, rfl⟩ := ra.toStr; obtain ⟨t', rfl⟩ := rb.toStr
  refine Mk.now h av.tok fun A Q _ q => PySem.P.notIn_str ?_
  rw [S_len, occ_findL]
  have e : (!(!(findL x y 0 x.length).toList.isEmpty)) = (findL x y 0 x.length).isNone := by cases findL x y 0 x.length <;> rfl
  rw [e]
  exact q _ s.heap s.toks (Ext.refl _) (Rep.bool _)
end
end Mine

namespace Mine
section
variable {c : Cx} {d : Nat} {env : Env} {σ : Store} {Φ : V → Prop}

def Callee (c : Cx) : Value → Prop
  | .builtin _ => True
  | .type _ => True
  | .ref a => keepIn c.K (.ref a) = true
  | _ => False
theorem cw_cons {u : Value} (hu : Callee c u) {pos : Pos} {first : List Value} {e : Expr} {rest : List Expr} {A : Around} {s : Shared} {Q : Value → Shared → Prop} {E : Value → Shared → Prop} (hK : c.K.In s.heap)
    (h : wpAny c.M A (spliced (backTo pos (starEach (e :: rest) env))) (fun vs s₁ => c.K.In s₁.heap ∧ wpAny c.M A (call u (first ++ vs)) Q E s₁) E s)
    (he : starEach (e :: rest) env = (false, eval e env) :: starEach rest env) (hplain : (backTo pos (starEach rest env)).any (·.1) = false) :
    wpAny c.M A (callWith pos u first (backTo pos (starEach (e :: rest) env)) []) Q E s := by
  cases u with
  | builtin id =>
    rw [he] at h ⊢
    exact callWith_builtin (by show (false || (backTo pos (starEach rest env)).any (·.1)) = false; rw [hplain]; rfl) (evalArgs_plain (wpAny_mono h (fun _ _ q => q.2) fun _ _ q => q))
  | type T =>
    rw [he] at h ⊢
    exact PyProof.Rows.callWith_type (by show (false || (backTo pos (starEach rest env)).any (·.1)) = false; rw [hplain]; rfl) (evalArgs_plain (wpAny_mono h (fun _ _ q => q.2) fun _ _ q => q))
  | ref a => exact callWith_K hK hu h he hplain
  | _ => exact hu.elim
theorem ev_call {f : Str} {fp pos : Pos} {e : Expr} {rest : List Expr} {u : Value} (h : EvE c d env σ (.Name f fp) fun x => x = .raw u ∧ Callee c u ∧ EvL c d env σ (e :: rest) fun xs => OpL c d (fun vs => call u vs) xs Φ)
    (he : starEach (e :: rest) env = (false, eval e env) :: starEach rest env := by rfl) (hplain : (backTo pos (starEach rest env)).any (·.1) = false := by rfl) : EvE c d env σ (.Call (.Name f fp) (e :: rest) [] pos) Φ := .mk fun H X N s S A Q R q => by
  refine wpAny_Call_Name_kw (h.run H X N s S A _ R fun v x h' tk k ht r hx => ?_)
  obtain ⟨rfl, hu, hx⟩ := hx
  have := r.toRaw; subst this
  have S1 := S.ext k ht
  refine cw_cons hu S1.av.ok.K ?_ he hplain
  refine hx.run H X N _ pos A _ S1 R fun vs xs h2 tk2 k2 ht2 r2 h3 => ?_
  have S2 := S1.ext k2 ht2
  exact ⟨S2.av.ok.K, h3 N _ vs S2.av r2 A _ R fun v x h4 tk4 k4 ht4 r4 h5 => q v x h4 tk4 (k.trans (k2.trans k4)) ht4 r4 h5⟩

/-- a method of a text -/
theorem ev_smeth {o : Expr} {name : Str} {apos pos : Pos} {e : Expr} {rest : List Expr} {id : String} (slot : PySem.Slot "str" name id) (ty : typeOf (.builtin id) = pure (.type "method_descriptor"))
    (h : EvE c d env σ o fun x => (∃ y, x = .str y) ∧ EvL c d env σ (e :: rest) fun xs => OpL c d (fun vs => call (.builtin id) vs) (x :: xs) Φ)
    (hbase : attributeBase o name env (eval o env) = eval o env := by rfl) (hline : (apos.endLine == pos.line) = true := by rfl)
    (he : starEach (e :: rest) env = (false, eval e env) :: starEach rest env := by rfl) (hplain : (backTo pos (starEach rest env)).any (·.1) = false := by rfl)
    (hfew : ((backTo pos (starEach (e :: rest) env)).all (fun x => !x.1) && (backToKw pos (keywordEach [] env)).all (fun x => x.1.isSome)
      && decide ((e :: rest).length + ([] : List Keyword).length + (if ([] : List Keyword).isEmpty then 0 else 1) < 30)) = true := by rfl) : EvE c d env σ (.Call (.Attribute o name apos) (e :: rest) [] pos) Φ := .mk fun H X N s S A Q R q => by
  refine wpAny_Call_method_lateS hbase hfew hline (h.run H X N s S A _ R fun v x h' tk k ht r hx => ?_)
  obtain ⟨⟨y, rfl⟩, hx⟩ := hx
  obtain ⟨t, rfl⟩ := r.toStr
  have S1 := S.ext k ht
  refine ⟨"str", id, F.plainAttrs_str, slot, ty, typeIs_str _ _ _, (fun _ e => nomatch e), ?_⟩
  refine cw_cons (u := .builtin id) trivial S1.av.ok.K ?_ he hplain
  refine hx.run H X N _ pos A _ S1 R fun vs xs h2 tk2 k2 ht2 r2 h3 => ?_
  have S2 := S1.ext k2 ht2
  exact ⟨S2.av.ok.K, h3 N _ (_ :: vs) S2.av (RepL.cons (r.ext k2) r2) A _ R fun v x h4 tk4 k4 ht4 r4 h5 => q v x h4 tk4 (k.trans (k2.trans k4)) ht4 r4 h5⟩

/-! items and slices -/
def ItemP (c : Cx) (d : Nat) (x y : V) (Φ : V → Prop) : Prop := ∀ N s v u, Av c N s → Rep c s.heap N v x → Rep c s.heap N u y → (∃ T id, s.TypeIs v T ∧ typeLookup (.type T) "__getitem__" = pure (some (.builtin id))) ∧ Mk c d N s (getItem v u) Φ
theorem ev_item {value slice : Expr} {pos : Pos} (h : EvE c d env σ value fun x => EvE c d env σ slice fun y => ItemP c d x y Φ) (hs : ∀ o i, subscripted slice false o i = operate [o, i] (getItem o i) := by intro _ _; rfl) : EvE c d env σ (.Subscript value slice pos) Φ := .mk fun H X N s S A Q R q =>
  Subscript_ (h.run H X N s S A _ R fun v x h' tk k ht r hx => hx.run H X N _ (S.ext k ht) A _ R fun u y h2 tk2 k2 ht2 r2 hy => by
    have S2 := (S.ext k ht).ext k2 ht2
    obtain ⟨⟨T, id, hT, hl⟩, hm⟩ := hy N _ v u S2.av (r.ext k2) r2
    exact tail_any hT hl (hm A _ R fun v x h3 tk3 k3 ht3 r3 hx3 => q v x h3 tk3 (k.trans (k2.trans k3)) ht3 r3 hx3) (hs v u))
theorem Heap.PlainList.lst {h : Heap} {a : Addr} {l : Array Value} (x : h.PlainList a l) : h.IsList a l := Heap.PlainList.isList x
theorem it_str {x : List Nat} {i : Int} {ch : Nat} (hi : 0 ≤ i) (hs : x.length ≤ sizeLine) (e : x[i.toNat]? = some ch) (h : Φ (.str [ch])) : ItemP c d (.str x) (.int i) Φ := fun N s v u av rv ru => by
  obtain ⟨t, rfl⟩ := rv.toStr; obtain ⟨t', rfl⟩ := ru.toInt
  refine ⟨⟨"str", _, typeIs_str _ _ _, F.slot_str_getitem.lookup⟩, Mk.now h av.tok fun A Q _ q => ?_⟩
  have hl : i.toNat < x.length := by
    rcases Nat.lt_or_ge i.toNat x.length with q | q
    · exact q
    · rw [List.getElem?_eq_none q] at e; cases e
  have e1 : sizeLine = 16777216 := by decide
  refine PySem.P.getItem_str (by simp; omega) ?_ (q _ s.heap _ (Ext.refl _) (Rep.str [ch] _))
  rw [seqIndex_of hi (by rw [S_len]; omega)]
  simpa using e
theorem it_list {l : List V} {i : Int} {y : V} (hi : 0 ≤ i) (hs : l.length ≤ sizeLine) (e : l[i.toNat]? = some y) (h : Φ y) : ItemP c d (.list l) (.int i) Φ := fun N s v u av rv ru => by
  obtain ⟨a, vs, rfl, na, hp, rl⟩ := rv.toList; obtain ⟨t', rfl⟩ := ru.toInt
  obtain ⟨w, hw, rw'⟩ := rl.get e
  have hL := Heap.PlainList.isList hp
  refine ⟨⟨"list", _, hL.typeIs, slot_list_getitem.lookup⟩, Mk.now h av.tok fun A Q _ q => ?_⟩
  have hl : i.toNat < l.length := by
    rcases Nat.lt_or_ge i.toNat l.length with q | q
    · exact q
    · rw [List.getElem?_eq_none q] at e; cases e
  have e1 : sizeLine = 16777216 := by decide
  exact wpAny_getItem_list hL hi (by omega) (by simpa using hw) (q _ s.heap s.toks (Ext.refl _) rw')
theorem it_list_neg {l : List V} {i : Int} {y : V} (hi : i < 0) (hs : l.length ≤ sizeLine) (hl : -(l.length : Int) ≤ i) (e : l[(i + l.length).toNat]? = some y) (h : Φ y) : ItemP c d (.list l) (.int i) Φ := fun N s v u av rv ru => by
  obtain ⟨a, vs, rfl, na, hp, rl⟩ := rv.toList; obtain ⟨t', rfl⟩ := ru.toInt
  obtain ⟨w, hw, rw'⟩ := rl.get e
  have hL := Heap.PlainList.isList hp
  refine ⟨⟨"list", _, hL.typeIs, slot_list_getitem.lookup⟩, Mk.now h av.tok fun A Q _ q => ?_⟩
  have e1 : sizeLine = 16777216 := by decide
  have hsz : vs.toArray.size = l.length := by simp [rl.length]
  exact wpAny_getItem_list_neg hL hi (by omega) (by omega) (by rw [hsz]; simpa using hw) (q _ s.heap s.toks (Ext.refl _) rw')
theorem it_tup {l : List V} {i : Int} {y : V} (hi : 0 ≤ i) (hs : l.length ≤ sizeLine) (e : l[i.toNat]? = some y) (h : Φ y) : ItemP c d (.tup l) (.int i) Φ := fun N s v u av rv ru => by
  obtain ⟨a, vs, rfl, na, hp, rl⟩ := rv.toTup; obtain ⟨t', rfl⟩ := ru.toInt
  obtain ⟨w, hw, rw'⟩ := rl.get e
  refine ⟨⟨"tuple", _, hp.typeIs, slot_tuple_getitem.lookup⟩, Mk.now h av.tok fun A Q _ q => ?_⟩
  have hl : i.toNat < l.length := by
    rcases Nat.lt_or_ge i.toNat l.length with q | q
    · exact q
    · rw [List.getElem?_eq_none q] at e; cases e
  have e1 : sizeLine = 16777216 := by decide
  exact PyProof.Rows.getItem_tuple hp (by omega) (by omega) (seqIndex_of hi (by simp [rl.length]; omega)) (by simpa using hw) (q _ s.heap s.toks (Ext.refl _) rw')

/-- one part of a slice -/
def EvO (c : Cx) (d : Nat) (env : Env) (σ : Store) : Option Expr → (Option Int → Prop) → Prop
  | none, Ψ => Ψ none
  | some e, Ψ => EvE c d env σ e fun x => ∃ i, x = .int i ∧ Ψ (some i)
theorem EvO.run {o : Option Expr} {Ψ : Option Int → Prop} (h : EvO c d env σ o Ψ) {H : Heap} {X N : Addr → Prop} {s : Shared} (S : St c H X N env s σ) {A : Around} (R : Room d A) {Q : Value → Shared → Prop}
    (q : ∀ v i h' tk, Ext s.heap h' → 0 ≤ tk → IsPart v i → Ψ i → Q v { s with heap := h', toks := tk }) : wpAny c.M A (evalPart o env) Q (fun _ _ => False) s := by
  cases o with
  | none => rw [evalPart_none]; exact wpAny_pure (q .none none s.heap s.toks (Ext.refl _) S.tok .none h)
  | some e =>
    rw [evalPart_some]
    refine EvE.run h H X N s S A _ R fun v x h' tk k ht r hx => ?_
    obtain ⟨i, rfl, hx⟩ := hx
    obtain ⟨t, rfl⟩ := r.toInt
    exact q _ (some i) h' tk k ht (.int i t) hx
def SliceP (c : Cx) (d : Nat) (x : V) (lo hi st : Option Int) (Φ : V → Prop) : Prop := ∀ N s v sl vl vu vs, Av c N s → Rep c s.heap N v x → s.heap.IsSliceOf sl vl vu vs → IsPart vl lo → IsPart vu hi → IsPart vs st →
  (∃ T id, s.TypeIs v T ∧ typeLookup (.type T) "__getitem__" = pure (some (.builtin id))) ∧ Mk c d N s (getItem v (.ref sl)) Φ
theorem ev_slice {value : Expr} {lower upper step : Option Expr} {p pos : Pos} (h : EvE c d env σ value fun x => EvO c d env σ lower fun lo => EvO c d env σ upper fun hi => EvO c d env σ step fun st => SliceP c d x lo hi st Φ) : EvE c d env σ (.Subscript value (.Slice lower upper step p) pos) Φ := .mk fun H X N s S A Q R q =>
  Subscript_ (h.run H X N s S A _ R fun v x h' tk k ht r hx => by
    have S1 := S.ext k ht
    refine wpAny_Slice (hx.run S1 R fun vl lo h2 tk2 k2 ht2 p1 hx2 => ?_)
    have S2 := S1.ext k2 ht2
    refine hx2.run S2 R fun vu hi h3 tk3 k3 ht3 p2 hx3 => ?_
    have S3 := S2.ext k3 ht3
    refine hx3.run S3 R fun vs st h4 tk4 k4 ht4 p3 hx4 => ?_
    have S4 := S3.ext k4 ht4
    let ob : Obj := { cls := .type "slice", data := .fields #[vl, vu, vs] }
    have k5 : Ext h4 (h4.push ob) := Ext.push _ _
    have S5 := S4.ext (tk := tk4) k5 ht4
    obtain ⟨⟨T, id, hT, hl⟩, hm⟩ := hx4 N _ v _ vl vu vs S5.av (r.ext (k2.trans (k3.trans (k4.trans k5)))) (Heap.IsSliceOf.new h4 vl vu vs) p1 p2 p3
    have fin := hm A Q R fun v x h6 tk6 k6 ht6 r6 hx6 => q v x h6 tk6 (k.trans (k2.trans (k3.trans (k4.trans (k5.trans k6))))) ht6 r6 hx6
    cases step with
    | none => exact tail_any (ops := [.ref h4.objs.size, v]) hT hl fin rfl
    | some e => exact tail_any (ops := [v, .ref h4.objs.size]) hT hl fin rfl)

def pickV (l : List V) (lo hi st : Option Int) : List V := (sliceRange (sliceBounds lo hi st l.length).1 (sliceBounds lo hi st l.length).2.1 (sliceBounds lo hi st l.length).2.2).filterMap (l[·]?)
theorem RepL.pick {h : Heap} {N : Addr → Prop} {vs : List Value} {l : List V} (r : RepL c h N vs l) : ∀ is : List Nat, RepL c h N (is.filterMap (vs[·]?)) (is.filterMap (l[·]?))
  | [] => RepL.nil
  | i :: is => by
    rw [List.filterMap_cons, List.filterMap_cons]
    rcases Nat.lt_or_ge i l.length with hi | hi
    · obtain ⟨w, hw, rw'⟩ := r.get (List.getElem?_eq_getElem hi)
      rw [hw, List.getElem?_eq_getElem hi]
      exact RepL.cons rw' (RepL.pick r is)
    · rw [List.getElem?_eq_none hi, List.getElem?_eq_none (by rw [r.length]; exact hi)]
      exact RepL.pick r is
theorem sl_list {l : List V} {lo hi st : Option Int} (hs : l.length ≤ sizeLine) (h0 : st ≠ some 0) (h : Φ (.list (pickV l lo hi st))) : SliceP c d (.list l) lo hi st Φ := fun N s v sl vl vu vs av rv hsl p1 p2 p3 => by
  obtain ⟨a, us, rfl, na, hp, rl⟩ := rv.toList
  have hL := Heap.PlainList.isList hp
  refine ⟨⟨"list", _, hL.typeIs, slot_list_getitem.lookup⟩, Mk.now h av.tok fun A Q _ q => ?_⟩
  refine wpAny_getItem_list_slice hL hsl p1 p2 p3 h0 (q _ _ s.toks (Ext.push _ _) ?_) (by simp [rl.length]; exact hs)
  rw [Rep]
  refine ⟨_, _, rfl, av.fresh, ⟨_, Heap.get?_push_size _ rfl⟩, ?_⟩
  have := (rl.ext (Ext.push s.heap { cls := .type "list", data := .seq (slicePick us.toArray lo hi st) })).pick (sliceRange (sliceBounds lo hi st l.length).1 (sliceBounds lo hi st l.length).2.1 (sliceBounds lo hi st l.length).2.2)
  have e : us.toArray.size = l.length := by simp [rl.length]
  simpa only [pickV, e, List.getElem?_toArray] using this
theorem RepL.ints {h : Heap} {N : Addr → Prop} : ∀ {vs : List Value} {ns : List Int}, IntsAre vs ns → RepL c h N vs (ns.map .int) := fun {vs ns} hi => by
  refine RepL.of_get (by simp [hi.length]) fun i v x e1 e2 => ?_
  rw [List.getElem?_map, Option.map_eq_some_iff] at e2
  obtain ⟨n, e2, rfl⟩ := e2
  obtain ⟨t, e3⟩ := hi.get i n e2
  rw [e1] at e3; cases e3
  exact Rep.int _ _
theorem sl_arg {ns : List Int} {lo hi st : Option Int} (hs : ns.length ≤ sizeLine) (h0 : st ≠ some 0) (h : Φ (.list (pickV (ns.map .int) lo hi st))) : SliceP c d (.arg ns) lo hi st Φ := fun N s v sl vl vu vs av rv hsl p1 p2 p3 => by
  simp only [Rep] at rv
  obtain ⟨a, us, rfl, na, hL, hI⟩ := rv
  have rl : RepL c s.heap N us (ns.map .int) := RepL.ints hI
  refine ⟨⟨"list", _, hL.typeIs, slot_list_getitem.lookup⟩, Mk.now h av.tok fun A Q _ q => ?_⟩
  refine wpAny_getItem_list_slice hL hsl p1 p2 p3 h0 (q _ _ s.toks (Ext.push _ _) ?_) (by simp [rl.length]; exact hs)
  rw [Rep]
  refine ⟨_, _, rfl, av.fresh, ⟨_, Heap.get?_push_size _ rfl⟩, ?_⟩
  have := (rl.ext (Ext.push s.heap { cls := .type "list", data := .seq (slicePick us.toArray lo hi st) })).pick (sliceRange (sliceBounds lo hi st (ns.map V.int).length).1 (sliceBounds lo hi st (ns.map V.int).length).2.1 (sliceBounds lo hi st (ns.map V.int).length).2.2)
  have e : us.toArray.size = (ns.map V.int).length := by simp [hI.length]
  simpa only [pickV, e, List.getElem?_toArray] using this
end
end Mine

namespace Mine
open Builtin Builtin.Str in
theorem gives_find4 (x y : Str) (i j : Int) (t u v z : Tok) : Gives («str.find» ⟨[.str x t, .str y u, .int i v, .int j z], []⟩) (.int (match occurrences x y (fromIndex x.length i) (min (fromIndex x.length j) x.length) 1 with | k :: _ => (k : Int) | [] => -1)) := by
  show Gives (match occurrences x y (fromIndex x.length i) (min (fromIndex x.length j) x.length) 1 with | k :: _ => retInt k | [] => (do rule "str.find.not-found"; retInt (-1))) _
  cases occurrences x y (fromIndex x.length i) (min (fromIndex x.length j) x.length) 1 with
  | nil => exact .rule (.of_eq rfl)
  | cons k _ => exact .of_eq rfl
def oint : Option Nat → Int
  | some i => i
  | none => -1
def splitL (x y : List Nat) : List (List Nat) := (Txt.split (S x) (S y)).map fun z => z.cps.toList
def joinL (sep : List Nat) (ts : List (List Nat)) : List Nat := (Txt.join (S sep) (ts.map S)).cps.toList
def replL (x : List Nat) (y z : Str) : List Nat := (Txt.replace (S x) y z).cps.toList
section
variable {c : Cx} {d : Nat} {env : Env} {σ : Store} {Φ : V → Prop}
theorem RepL.one {h : Heap} {N : Addr → Prop} {vs : List Value} {x : V} (r : RepL c h N vs [x]) : ∃ v, vs = [v] ∧ Rep c h N v x := by
  simp only [RepL] at r; obtain ⟨v, _, rfl, r1, rfl⟩ := r; exact ⟨v, rfl, r1⟩
theorem RepL.two {h : Heap} {N : Addr → Prop} {vs : List Value} {x y : V} (r : RepL c h N vs [x, y]) : ∃ v u, vs = [v, u] ∧ Rep c h N v x ∧ Rep c h N u y := by
  simp only [RepL] at r; obtain ⟨v, _, rfl, r1, u, _, rfl, r2, rfl⟩ := r; exact ⟨v, u, rfl, r1, r2⟩
theorem RepL.three {h : Heap} {N : Addr → Prop} {vs : List Value} {x y z : V} (r : RepL c h N vs [x, y, z]) : ∃ v u w, vs = [v, u, w] ∧ Rep c h N v x ∧ Rep c h N u y ∧ Rep c h N w z := by
  simp only [RepL] at r; obtain ⟨v, _, rfl, r1, u, _, rfl, r2, w, _, rfl, r3, rfl⟩ := r; exact ⟨v, u, w, rfl, r1, r2, r3⟩
theorem RepL.four {h : Heap} {N : Addr → Prop} {vs : List Value} {x y z q : V} (r : RepL c h N vs [x, y, z, q]) : ∃ v u w o, vs = [v, u, w, o] ∧ Rep c h N v x ∧ Rep c h N u y ∧ Rep c h N w z ∧ Rep c h N o q := by
  simp only [RepL] at r; obtain ⟨v, _, rfl, r1, u, _, rfl, r2, w, _, rfl, r3, o, _, rfl, r4, rfl⟩ := r; exact ⟨v, u, w, o, rfl, r1, r2, r3, r4⟩

theorem fn_len_str {x : List Nat} (hs : x.length ≤ sizeLine) (h : Φ (.int x.length)) : OpL c d (fun vs => call (.builtin "len") vs) [.str x] Φ := fun N s vs av r => by
  obtain ⟨v, rfl, r1⟩ := r.one
  obtain ⟨t, rfl⟩ := r1.toStr
  have e1 : sizeLine = 16777216 := by decide
  refine Mk.now h av.tok fun A Q _ q => PySem.P.len_str (by rw [S_len]; omega) ?_
  rw [S_len]
  exact q _ s.heap _ (Ext.refl _) (Rep.int _ _)
theorem fn_len_list {x : List V} (hs : x.length ≤ sizeLine) (h : Φ (.int x.length)) : OpL c d (fun vs => call (.builtin "len") vs) [.list x] Φ := fun N s vs av r => by
  obtain ⟨v, rfl, r1⟩ := r.one
  obtain ⟨a, us, rfl, na, hp, rl⟩ := r1.toList
  have e1 : sizeLine = 16777216 := by decide
  have e2 : us.toArray.size = x.length := by simp [rl.length]
  refine Mk.now h av.tok fun A Q _ q => len_list (Heap.PlainList.isList hp) (by omega) ?_
  rw [e2]
  exact q _ s.heap _ (Ext.refl _) (Rep.int _ _)
theorem fn_len_tup {x : List V} (hs : x.length ≤ sizeLine) (h : Φ (.int x.length)) : OpL c d (fun vs => call (.builtin "len") vs) [.tup x] Φ := fun N s vs av r => by
  obtain ⟨v, rfl, r1⟩ := r.one
  obtain ⟨a, us, rfl, na, hp, rl⟩ := r1.toTup
  have e1 : sizeLine = 16777216 := by decide
  have e2 : us.toArray.size = x.length := by simp [rl.length]
  refine Mk.now h av.tok fun A Q _ q => len_tuple hp (by omega) ?_
  rw [e2]
  exact q _ s.heap _ (Ext.refl _) (Rep.int _ _)
theorem fn_startswith {x y : List Nat} (h : Φ (.bool (decide (y.length ≤ x.length) && atL x y 0))) : OpL c d (fun vs => call (.builtin "str.startswith") vs) [.str x, .str y] Φ := fun N s vs av r => by
  obtain ⟨v, u, rfl, r1, r2⟩ := r.two
  obtain ⟨t, rfl⟩ := r1.toStr; obtain ⟨t', rfl⟩ := r2.toStr
  refine Mk.now h av.tok fun A Q _ q => SC.startswith ?_
  have e : Txt.startswith (S x) (S y) = (decide (y.length ≤ x.length) && atL x y 0) := by
    unfold Txt.startswith atL; rw [StrLaws.subAt_eq, S_len, S_len, Nat.zero_add]
  rw [e]
  exact q _ s.heap s.toks (Ext.refl _) (Rep.bool _)
theorem fn_endswith {x y : List Nat} (h : Φ (.bool (decide (y.length ≤ x.length) && atL x y (x.length - y.length)))) : OpL c d (fun vs => call (.builtin "str.endswith") vs) [.str x, .str y] Φ := fun N s vs av r => by
  obtain ⟨v, u, rfl, r1, r2⟩ := r.two
  obtain ⟨t, rfl⟩ := r1.toStr; obtain ⟨t', rfl⟩ := r2.toStr
  refine Mk.now h av.tok fun A Q _ q => SC.endswith ?_
  have e : Txt.endswith (S x) (S y) = (decide (y.length ≤ x.length) && atL x y (x.length - y.length)) := by
    unfold Txt.endswith atL; rw [StrLaws.subAt_eq, S_len, S_len, Nat.zero_add]
  rw [e]
  exact q _ s.heap s.toks (Ext.refl _) (Rep.bool _)
theorem fn_find4 {x y : List Nat} {a b : Nat} (hb : b ≤ x.length) (h : Φ (.int (oint (findL x y a b)))) : OpL c d (fun vs => call (.builtin "str.find") vs) [.str x, .str y, .int a, .int b] Φ := fun N s vs av r => by
  obtain ⟨v, u, w, o, rfl, r1, r2, r3, r4⟩ := r.four
  obtain ⟨t, rfl⟩ := r1.toStr; obtain ⟨t', rfl⟩ := r2.toStr; obtain ⟨t3, rfl⟩ := r3.toInt; obtain ⟨t4, rfl⟩ := r4.toInt
  refine Mk.now h av.tok fun A Q _ q => call_gives F.slot_str_find (typeIs_str _ _ _) F.entry_str_find (F.args_str_find_4 _ _ _ _) (gives_find4 (S x) (S y) a b t t' t3 t4) ?_
  have e1 : fromIndex (S x).length (a : Int) = a := by unfold fromIndex; rw [if_neg (by omega)]; omega
  have e2 : fromIndex (S x).length (b : Int) = b := by unfold fromIndex; rw [if_neg (by omega)]; omega
  have e3 : min b (S x).length = b := by rw [S_len]; omega
  rw [e1, e2, e3, occ_findL]
  have e4 : (match (findL x y a b).toList with | k :: _ => (k : Int) | [] => -1) = oint (findL x y a b) := by cases findL x y a b <;> rfl
  rw [e4]
  exact q _ s.heap _ (Ext.refl _) (Rep.int _ _)
theorem RepL.strs {h : Heap} {N : Addr → Prop} : ∀ {ts : List (List Nat)} {vs : List Value}, RepL c h N vs (ts.map .str) → ∃ l : List (Str × Tok), vs = strValues l ∧ l.map (·.1) = ts.map S
  | [], vs, r => by simp only [List.map_nil, RepL] at r; exact ⟨[], r, rfl⟩
  | x :: ts, vs, r => by
    simp only [List.map_cons, RepL] at r
    obtain ⟨v, us, rfl, r1, r2⟩ := r
    obtain ⟨t, rfl⟩ := r1.toStr
    obtain ⟨l, rfl, e⟩ := r2.strs
    exact ⟨(S x, t) :: l, rfl, by simp [e]⟩
theorem fn_join {sep : List Nat} {ts : List (List Nat)} (hok : JoinOk (S sep) (ts.map S) = true) (h : Φ (.str (joinL sep ts))) : OpL c d (fun vs => call (.builtin "str.join") vs) [.str sep, .list (ts.map .str)] Φ := fun N s vs av r => by
  obtain ⟨v, u, rfl, r1, r2⟩ := r.two
  obtain ⟨t, rfl⟩ := r1.toStr
  obtain ⟨a, us, rfl, na, hp, rl⟩ := r2.toList
  obtain ⟨l, rfl, e⟩ := rl.strs
  refine Mk.now h av.tok fun A Q _ q => SC.join (Heap.PlainList.isList hp) e hok fun t' k => ?_
  exact q _ s.heap k (Ext.refl _) (Rep.str' _ _)
theorem RepL.ofStrs {h : Heap} {N : Addr → Prop} : ∀ (l : List (Str × Tok)), RepL c h N (strValues l) (l.map fun p => V.str p.1.cps.toList)
  | [] => RepL.nil
  | p :: l => RepL.cons (Rep.str' p.1 p.2) (RepL.ofStrs l)
/-- a fresh list -/
def MkF (c : Cx) (d : Nat) (N : Addr → Prop) (s : Shared) (t : Sem Value) (Ψ : List V → Prop) : Prop :=
  ∀ A (Q : Value → Shared → Prop), Room d A →
    (∀ a vs l h' tk, Ext s.heap h' → 0 ≤ tk → s.heap.get? a = none → h'.PlainList a vs.toArray → RepL c h' (fun b => N b ∨ b = a) vs l → Ψ l → Q (.ref a) { s with heap := h', toks := tk }) → wpAny c.M A t Q (fun _ _ => False) s
structure EvF (c : Cx) (d : Nat) (env : Env) (σ : Store) (e : Expr) (Ψ : List V → Prop) : Prop where
  run : ∀ H X N s, St c H X N env s σ → MkF c d N s (eval e env) Ψ
def OpF2 (c : Cx) (d : Nat) (t : Value → Value → Sem Value) (x y : V) (Ψ : List V → Prop) : Prop := ∀ N s v u, Av c N s → Rep c s.heap N v x → Rep c s.heap N u y → MkF c d N s (t v u) Ψ
def OpFL (c : Cx) (d : Nat) (t : List Value → Sem Value) (xs : List V) (Ψ : List V → Prop) : Prop := ∀ N s vs, Av c N s → RepL c s.heap N vs xs → MkF c d N s (t vs) Ψ
theorem MkF.mk {N : Addr → Prop} {s : Shared} {t : Sem Value} (av : Av c N s) (h : MkF c d N s t fun l => Φ (.list l)) : Mk c d N s t Φ := fun A Q R q => h A Q R fun a vs l h' tk k ht ha hp r p =>
  q (.ref a) (.list l) h' tk k ht (by rw [Rep]; exact ⟨a, vs, rfl, fun n => by { obtain ⟨o, e⟩ := av.alive a n; rw [ha] at e; cases e }, hp, r.mono2 fun b o nb e => ⟨fun z => nb (.inl z), e⟩⟩) p
theorem EvF.ev {e : Expr} (h : EvF c d env σ e fun l => Φ (.list l)) : EvE c d env σ e Φ := .mk fun H X N s S => (h.run H X N s S).mk S.av
theorem ef_list {es : List Expr} {pos : Pos} {Ψ : List V → Prop} (h : EvL c d env σ es fun xs => xs.length ≤ sizeLine ∧ Ψ xs) : EvF c d env σ (.List es pos) Ψ := .mk fun H X N s S A Q R q =>
  List_ (h.run H X N s pos A _ S R fun vs xs h' tk k ht r hx => by
    have hn : h'.get? h'.objs.size = none := Heap.get?_none_of_le (Nat.le_refl _)
    refine wpAny_newObj_type (q h'.objs.size vs xs _ tk (k.trans (Ext.push _ _)) ht ?_ ⟨_, Heap.get?_push_size _ rfl⟩ (r.mono2 fun b o nb e => ⟨fun z => z.elim nb fun z => by { rw [z, hn] at e; cases e }, Heap.get?_push_of_some _ e⟩) hx.2) (by show vs.toArray.size ≤ sizeLine; rw [List.size_toArray, r.length]; exact hx.1)
    cases e : s.heap.get? h'.objs.size with
    | none => rfl
    | some o => have := k _ _ e; rw [hn] at this; cases this)
theorem ef_binop {l r : Expr} {op : Operator} {pos : Pos} {Ψ : List V → Prop} (h : EvE c d env σ l fun a => EvE c d env σ r fun b => OpF2 c d (binaryOp op) a b Ψ) : EvF c d env σ (.BinOp l op r pos) Ψ := .mk fun H X N s S A Q R q =>
  wpAny_BinOp (h.run H X N s S A _ R fun va a h' tk k ht ra ha => ha.run H X N _ (S.ext k ht) A _ R fun vb b h'' tk' k' ht' rb hb =>
    hb N _ va vb ((S.ext k ht).ext k' ht').av (ra.ext k') rb A _ R fun a2 vs l h3 tk3 k3 ht3 hn hp rl hx => q a2 vs l h3 tk3 (k.trans (k'.trans k3)) ht3 (by
      cases e : s.heap.get? a2 with
      | none => rfl
      | some o => have := (k.trans k') _ _ e; rw [hn] at this; cases this) hp rl hx)
theorem ef_smeth {o : Expr} {name : Str} {apos pos : Pos} {e : Expr} {rest : List Expr} {id : String} {Ψ : List V → Prop} (slot : PySem.Slot "str" name id) (ty : typeOf (.builtin id) = pure (.type "method_descriptor"))
    (h : EvE c d env σ o fun x => (∃ y, x = .str y) ∧ EvL c d env σ (e :: rest) fun xs => OpFL c d (fun vs => call (.builtin id) vs) (x :: xs) Ψ)
    (hbase : attributeBase o name env (eval o env) = eval o env := by rfl) (hline : (apos.endLine == pos.line) = true := by rfl)
    (he : starEach (e :: rest) env = (false, eval e env) :: starEach rest env := by rfl) (hplain : (backTo pos (starEach rest env)).any (·.1) = false := by rfl)
    (hfew : ((backTo pos (starEach (e :: rest) env)).all (fun x => !x.1) && (backToKw pos (keywordEach [] env)).all (fun x => x.1.isSome)
      && decide ((e :: rest).length + ([] : List Keyword).length + (if ([] : List Keyword).isEmpty then 0 else 1) < 30)) = true := by rfl) : EvF c d env σ (.Call (.Attribute o name apos) (e :: rest) [] pos) Ψ := .mk fun H X N s S A Q R q => by
  refine wpAny_Call_method_lateS hbase hfew hline (h.run H X N s S A _ R fun v x h' tk k ht r hx => ?_)
  obtain ⟨⟨y, rfl⟩, hx⟩ := hx
  obtain ⟨t, rfl⟩ := r.toStr
  have S1 := S.ext k ht
  refine ⟨"str", id, F.plainAttrs_str, slot, ty, typeIs_str _ _ _, (fun _ e => nomatch e), ?_⟩
  refine cw_cons (u := .builtin id) trivial S1.av.ok.K ?_ he hplain
  refine hx.run H X N _ pos A _ S1 R fun vs xs h2 tk2 k2 ht2 r2 h3 => ?_
  have S2 := S1.ext k2 ht2
  exact ⟨S2.av.ok.K, h3 N _ (_ :: vs) S2.av (RepL.cons (r.ext k2) r2) A _ R fun a vs l h4 tk4 k4 ht4 hn hp rl h5 => q a vs l h4 tk4 (k.trans (k2.trans k4)) ht4 (by
      cases e : s.heap.get? a with
      | none => rfl
      | some o => have := (k.trans k2) _ _ e; rw [hn] at this; cases this) hp rl h5⟩
theorem ff_new {N : Addr → Prop} {s : Shared} {Q : Value → Shared → Prop} {Ψ : List V → Prop} {vs : List Value} {l : List V} {tk n : Nat} (ht : 0 ≤ tk) (r : RepL c s.heap N vs l) (hl : Ψ l)
    (q : ∀ a vs l h' tk, Ext s.heap h' → 0 ≤ tk → s.heap.get? a = none → h'.PlainList a vs.toArray → RepL c h' (fun b => N b ∨ b = a) vs l → Ψ l → Q (.ref a) { s with heap := h', toks := tk }) :
    Q (.ref s.heap.objs.size) { s with heap := s.heap.push { cls := .type "list", data := .seq vs.toArray n }, toks := tk } := by
  have hn : s.heap.get? s.heap.objs.size = none := Heap.get?_none_of_le (Nat.le_refl _)
  exact q _ vs l _ tk (Ext.push _ _) ht hn ⟨n, Heap.get?_push_size _ rfl⟩ (r.mono2 fun b o nb e => ⟨fun z => z.elim nb fun z => by { rw [z, hn] at e; cases e }, Heap.get?_push_of_some _ e⟩) hl
theorem ff_split {x y : List Nat} {Ψ : List V → Prop} (hy : y ≠ []) (hs : x.length + 2 ≤ sizeLine) (h : Ψ ((splitL x y).map .str)) : OpFL c d (fun vs => call (.builtin "str.split") vs) [.str x, .str y] Ψ := fun N s vs av r A Q R q => by
  obtain ⟨v, u, rfl, r1, r2⟩ := r.two
  obtain ⟨t, rfl⟩ := r1.toStr; obtain ⟨t', rfl⟩ := r2.toStr
  have hy' : ((S y).length == 0) = false := by rw [S_len]; cases y with | nil => exact absurd rfl hy | cons a b => rfl
  have fin : ∀ (l : List (Str × Tok)) (n : Nat), l.map (·.1) = Txt.split (S x) (S y) → 0 ≤ n → Q (.ref s.heap.objs.size) { s with heap := s.heap.push { cls := .type "list", data := .seq (strValues l).toArray }, toks := n } := fun l n e hn => by
    refine ff_new (N := N) (Ψ := Ψ) (l := (splitL x y).map .str) hn ?_ h q
    have := RepL.ofStrs (c := c) (h := s.heap) (N := N) l
    have e2 : (l.map fun p => V.str p.1.cps.toList) = (splitL x y).map .str := by
      unfold splitL
      rw [← e]; simp
    rw [e2] at this; exact this
  have hsz : (S x).length ≤ sizeLine := by rw [S_len]; omega
  cases h1 : (decide ((S x).length < (S y).length) || decide (Builtin.Str.strKind (S x) < Builtin.Str.strKind (S y)))
  · cases hf : (Builtin.Str.occurrences (S x) (S y) 0 (S x).length ((S x).length + 1)).isEmpty
    · have hn : (Builtin.Str.partsBetween (S x) (Builtin.Str.occurrences (S x) (S y) 0 (S x).length ((S x).length + 1)) (S y).length).length ≤ sizeLine := by
        have := StrLaws.occ_length_le (S x) (S y) 0 (S x).length ((S x).length + 1)
        unfold Builtin.Str.partsBetween
        simp only [List.length_map, List.length_zip, List.length_cons, List.length_append, List.length_nil]
        rw [S_len] at this ⊢
        omega
      refine call_meets F.slot_str_split (typeIs_str _ _ _) F.entry_str_split (F.args_str_split_2 _ _) (meets_str_split_sep (S x) (S y) t t' h1 hy' hf hsz hn) ?_
      show Q _ { s with toks := _, heap := s.heap.push { cls := .type "list", data := .seq (strsFrom s.toks (Builtin.Str.partsBetween (S x) (Builtin.Str.occurrences (S x) (S y) 0 (S x).length ((S x).length + 1)) (S y).length)).toArray } }
      rw [strsFrom_eq]
      exact fin (numbered s.toks _) _ ((numbered_texts _ _).trans ((if_neg (ne_true_of_eq_false h1)).trans (if_neg (ne_true_of_eq_false hf))).symm) (by have := av.tok; omega)
    · exact call_meets F.slot_str_split (typeIs_str _ _ _) F.entry_str_split (F.args_str_split_2 _ _) (meets_str_split_not_found (S x) (S y) t t' h1 hy' hf)
        (fin [(S x, t)] s.toks ((if_neg (ne_true_of_eq_false h1)).trans (if_pos hf)).symm av.tok)
  · exact call_meets F.slot_str_split (typeIs_str _ _ _) F.entry_str_split (F.args_str_split_2 _ _) (meets_str_split_cannot_occur (S x) (S y) t t' h1)
      (fin [(S x, t)] s.toks (if_pos h1).symm av.tok)

end
end Mine

namespace Mine
def rep1 (ch : Nat) (z : List Nat) (l : List Nat) : List Nat := l.flatMap fun a => if a = ch then z else [a]
theorem rep1_append (ch : Nat) (z a b : List Nat) : rep1 ch z (a ++ b) = rep1 ch z a ++ rep1 ch z b := List.flatMap_append
theorem rep1_free (ch : Nat) (z : List Nat) : ∀ l : List Nat, ch ∉ l → rep1 ch z l = l
  | [], _ => rfl
  | a :: l, h => by
    have h1 : a ≠ ch := fun e => h (by simp [e])
    have h2 := rep1_free ch z l fun e => h (by simp [e])
    unfold rep1 at h2 ⊢
    rw [List.flatMap_cons, h2, if_neg h1]; rfl
theorem rep1_join (ch : Nat) (z : Str) : ∀ parts : List Str, (∀ p ∈ parts, ch ∉ p.cps.toList) → rep1 ch z.cps.toList (Str.join ⟨#[ch]⟩ parts).cps.toList = (Str.join z parts).cps.toList
  | [], _ => rfl
  | [x], h => rep1_free ch _ _ (h x (by simp))
  | x :: y :: r, h => by
    have ih := rep1_join ch z (y :: r) fun p hp => h p (List.mem_cons_of_mem _ hp)
    show rep1 ch _ ((x ++ (⟨#[ch]⟩ : Str)) ++ Str.join ⟨#[ch]⟩ (y :: r)).cps.toList = ((x ++ z) ++ Str.join z (y :: r)).cps.toList
    rw [Str.cps_append, Str.cps_append, Str.cps_append, Str.cps_append, Array.toList_append, Array.toList_append, Array.toList_append, Array.toList_append, rep1_append, rep1_append, ih, rep1_free ch _ _ (h x (by simp))]
    have : rep1 ch z.cps.toList (#[ch] : Array Nat).toList = z.cps.toList := by simp [rep1]
    rw [this]
theorem replL_one (l : List Nat) (ch : Nat) (z : Str) : replL l ⟨#[ch]⟩ z = rep1 ch z.cps.toList l := by
  unfold replL
  rw [StrLaws.replace_one, ← rep1_join ch z _ (StrLaws.split_free (S l) ch), StrLaws.join_split]
theorem findL_none_of {x y : List Nat} {lo hi : Nat} (h : findL x y lo hi = none) : ∀ i, lo ≤ i → i + y.length ≤ hi → atL x y i = false := fun i h1 h2 => by
  unfold findL at h
  rw [List.find?_eq_none] at h
  have := h i (List.mem_range'_1.mpr ⟨h1, by omega⟩)
  unfold okL at this
  simpa [h2] using this
theorem findL_one_none {x : List Nat} {ch : Nat} (h : findL x [ch] 0 x.length = none) : ch ∉ x := fun hm => by
  obtain ⟨i, hi, e⟩ := List.getElem_of_mem hm
  have := findL_none_of h i (Nat.zero_le _) (by simp; omega)
  unfold atL at this
  rw [List.drop_eq_getElem_cons hi] at this
  simp [e] at this
theorem ite_both {b : Bool} {P Q : Prop} (h1 : b = true → P) (h2 : b = false → Q) : if b = true then P else Q := by
  cases b
  · simpa using h2 rfl
  · simpa using h1 rfl

section
variable {c : Cx} {d : Nat} {env : Env} {σ : Store} {Φ : AF → Prop}
/-- x.replace(y, z) with written texts -/
theorem replace_raw {H : Heap} {X N : Addr → Prop} {s : Shared} (S : St c H X N env s σ) (ht : 1 ≤ s.toks) {x : Str} {p apos pos : Pos} {y z : Str} {k1 k2 : Nat} {p1 p2 : Pos} {l : List Nat} (hx : σ x = some (.val (.str l))) (hl : l.length ≤ 1048576) (hyz : (y == z) = false) (hz : z.length ≤ 14)
    (hd : (x == ("__debug__" : Str)) = false) (hc : (x == ("__classdict__" : Str)) = false) (hline : (apos.endLine == pos.line) = true) {A : Around} {Q : Value → Shared → Prop}
    (q : ∀ v tk, Rep c s.heap N v (.str (replL l y z)) → Q v { s with toks := tk }) :
    wpAny c.M A (eval (.Call (.Attribute (.Name x p) (Str.ofString "replace") apos) [.Constant (.str y) k1 p1, .Constant (.str z) k2 p2] [] pos) env) Q (fun _ _ => False) s := by
  refine wpAny_Call_method_lateS rfl rfl hline (wpAny_Name (S.load hx hc fun v b => ?_) hd)
  have b' : Rep c s.heap N v (.str l) := b
  obtain ⟨t, rfl⟩ := b'.toStr
  refine ⟨"str", "str.replace", F.plainAttrs_str, F.slot_str_replace, F.type_str_replace, typeIs_str _ _ _, (fun _ e => nomatch e), ?_⟩
  refine cw_cons (u := .builtin "str.replace") trivial S.av.ok.K (spliced_more (wpAny_Constant_str (spliced_more (wpAny_Constant_str (spliced_none ⟨S.av.ok.K, ?_⟩))))) rfl rfl
  dsimp only [List.cons_append, List.nil_append]
  refine SC.replaceW ?_ ?_ ?_ hyz (by rw [S_len]; exact hl) hz fun t' n => ?_
  · show s.toks ≠ 0; omega
  · show s.toks + 1 ≠ 0; omega
  · show s.toks ≠ s.toks + 1; omega
  · exact q _ n (Rep.str' _ _)
/-- `if 'y' in x: x = x.replace('y', 'z')` -/
theorem ex_repl {x : Str} {l : List Nat} {ch : Nat} {y z : Str} {k1 k2 k3 : Nat} {p1 p2 p3 p4 p5 p6 p7 p8 p9 p10 p11 : Pos} (hk : Kept env x) (hx : σ x = some (.val (.str l))) (hy : y = ⟨#[ch]⟩) (hyz : (y == z) = false) (hz : z.length ≤ 14) (hl : l.length ≤ 1048576)
    (h : Φ (.next (σ.set x (.val (.str (rep1 ch z.cps.toList l)))))) (hline : (p5.endLine == p9.line) = true := by rfl) (hd : (x == ("__debug__" : Str)) = false := by decide) (hc : (x == ("__classdict__" : Str)) = false := by decide)
    (hs : swapsWith (.Call (.Attribute (.Name x p4) (Str.ofString "replace") p5) [.Constant (.str y) k2 p6, .Constant (.str z) k3 p7] [] p9) (some (.Name x p3)) p10.line env = pure false := by rfl) :
    Ex1 c d env σ (.If (.Compare (.Constant (.str y) k1 p1) [.In] [.Name x p2] p8) [.Assign [.Name x p3] (.Call (.Attribute (.Name x p4) (Str.ofString "replace") p5) [.Constant (.str y) k2 p6, .Constant (.str z) k3 p7] [] p9) p10] [] p11) Φ := by
  refine .mk fun H X N s A Q S hF hX R q => ?_
  have S1 := S.ext (tk := s.toks + 1) (Ext.refl _) (Nat.zero_le _)
  refine wpAny_If (wpAny_isTrue_Compare1 (wpAny_Constant_str (wpAny_Name (S1.load hx hc fun v b => ?_) hd)) (by subst hy; rfl))
  have b' : Rep c s.heap N v (.str l) := b
  obtain ⟨t, rfl⟩ := b'.toStr
  refine PySem.P.in_str ?_
  rw [S_len, show y = Mine.S [ch] from hy, occ_findL]
  refine wpAny_truthy_bool ?_
  cases hf : findL l [ch] 0 l.length with
  | none =>
    have hn : ch ∉ l := findL_one_none hf
    rw [rep1_free ch _ _ hn] at h
    exact (ex_view (σ' := σ.set x (.val (.str l))) (fun u T e => by
      simp only [Store.set] at e
      split at e
      · rename_i hu; rw [hu, ← e]; exact hx
      · exact e) (ex_nil h)).run H X N _ A Q S1 hF hX R q
  | some i =>
    rw [if_pos (show (!(some i).toList.isEmpty) = true from rfl), ← show y = Mine.S [ch] from hy]
    refine wpAny_execs_cons ?_
    refine wpAny_Assign_Name ?_ hs
    refine (replace_raw S1 (by show 1 ≤ s.toks + 1; omega) hx hl hyz hz hd hc hline fun v tk r => ?_)
    rw [hy, replL_one] at r
    exact (S1.ext (tk := tk) (Ext.refl _) (Nat.zero_le _)).putVal (hk.at hF) r fun h2 tk2 ht2 _ S2 => wpAny_execs_nil (q .next (.next _) h2 tk2 ht2 ⟨N, S2⟩ h)
end
end Mine

namespace Mine
open Classical in
/-- the heap with what is not asked for left out -/
noncomputable def keepH (h : Heap) (p : Addr → Prop) : Heap := ⟨h.objs.mapIdx fun i o => if p i then o else { o with data := .freed }, h.life⟩
theorem keepH_yes {h : Heap} {p : Addr → Prop} {a : Addr} (hp : p a) : (keepH h p).get? a = h.get? a := by
  unfold Heap.get? keepH
  simp only [Array.getElem?_mapIdx]
  cases e : h.objs[a]? with
  | none => rfl
  | some o => simp only [Option.map_some, if_pos hp]
theorem keepH_no {h : Heap} {p : Addr → Prop} {a : Addr} (hp : ¬ p a) : (keepH h p).get? a = none := by
  unfold Heap.get? keepH
  simp only [Array.getElem?_mapIdx]
  cases e : h.objs[a]? with
  | none => rfl
  | some o => simp only [Option.map_some, if_neg hp]
theorem keepH_some {h : Heap} {p : Addr → Prop} {a : Addr} {o : Obj} (e : (keepH h p).get? a = some o) : p a ∧ h.get? a = some o := by
  by_cases hp : p a
  · rw [keepH_yes hp] at e; exact ⟨hp, e⟩
  · rw [keepH_no hp] at e; cases e

section
variable {c : Cx} {d : Nat} {env : Env} {σ : Store} {H H₁ : Heap} {X X₂ N N₁ : Addr → Prop} {s s₁ : Shared} {wr : List Addr}

/-- into a loop: the iterator's own objects wr are new -/
theorem St.enter (S : St c H X N env s σ) (hF : FnE H env) (hX : ∀ b, X b → ∃ o, H.get? b = some o) {h' : Heap} {tk : Nat} (k : Ext s.heap h') (ht : 0 ≤ tk) (fr : ∀ b ∈ wr, s.heap.get? b = none) (al : ∀ b ∈ wr, ∃ o, h'.get? b = some o) :
    St c (keepH h' fun a => ¬ (N a ∨ a ∈ wr) ∨ (X a ∨ a ∈ wr)) (fun a => X a ∨ a ∈ wr) (fun a => N a ∨ a ∈ wr) env { s with heap := h', toks := tk } σ ∧
    FnE (keepH h' fun a => ¬ (N a ∨ a ∈ wr) ∨ (X a ∨ a ∈ wr)) env ∧ (∀ b, (X b ∨ b ∈ wr) → ∃ o, (keepH h' fun a => ¬ (N a ∨ a ∈ wr) ∨ (X a ∨ a ∈ wr)).get? b = some o) ∧
    Ext H (keepH h' fun a => ¬ (N a ∨ a ∈ wr) ∨ (X a ∨ a ∈ wr)) := by
  have S' := S.ext k ht
  have up : ∀ b o, ¬ N b → s.heap.get? b = some o → ¬ (N b ∨ b ∈ wr) ∧ h'.get? b = some o := fun b o nb e => ⟨fun z => z.elim nb fun z => by { rw [fr b z] at e; cases e }, k b o e⟩
  have hH : ∀ b o, H.get? b = some o → b ∉ wr := fun b o e z => by have := S.kH _ _ e; rw [fr b z] at this; cases this
  have ext : Ext H (keepH h' fun a => ¬ (N a ∨ a ∈ wr) ∨ (X a ∨ a ∈ wr)) := fun b o e => by
    rw [keepH_yes]
    · exact k _ _ (S.kH _ _ e)
    · by_cases hN : N b
      · rcases S.nX b hN with q | q
        · exact .inr (.inl q)
        · rw [q] at e; cases e
      · exact .inl fun z => z.elim hN (hH b o e)
  have hid : ∀ b, N b → H.get? b = none → ¬ (b ∈ wr) → (keepH h' fun a => ¬ (N a ∨ a ∈ wr) ∨ (X a ∨ a ∈ wr)).get? b = none := fun b hN hb hw => by
    rw [keepH_no]
    rintro (z | z | z)
    · exact z (.inl hN)
    · obtain ⟨o, e⟩ := hX b z; rw [hb] at e; cases e
    · exact hw z
  have alive_nw : ∀ b, (∃ o, s.heap.get? b = some o) → ¬ (b ∈ wr) := fun b ⟨o, e⟩ z => by rw [fr b z] at e; cases e
  refine ⟨⟨ht, S.ok.keeps ext, fun b o e => (keepH_some e).2, fun a ha => ha.elim (fun z => .inl (S.sup a z)) .inr, fun a ha => ?_, fun a ha => ?_, .inl S.lN, ?_, S.kind, S.glob, S.blt, fun x cl e => ?_, S.capart, ?_⟩, fun x cl e => ?_, fun b hb => ?_, ext⟩
  · rcases ha with ha | ha
    · rcases S.nX a ha with q | q
      · exact .inl (.inl q)
      · exact .inr (hid a ha q (alive_nw a (S.alive a ha)))
    · exact .inl (.inr ha)
  · rcases ha with ha | ha
    · exact S'.alive a ha
    · exact al a ha
  · exact hid _ S.lN S.lH (alive_nw _ (S.alive _ S.lN))
  · obtain ⟨e1, e2, e3⟩ := S'.cells x cl e; exact ⟨.inl e1, e2, e3⟩
  · obtain ⟨m, n, q, r⟩ := S.fr
    refine ⟨m, n.keeps k, fun x T e => ?_, fun x y lx ly a ex ey ax ay => r x y lx ly a ex ey (ax.back k fun cl e => (S.cells x cl e).2.2) (ay.back k fun cl e => (S.cells y cl e).2.2)⟩
    obtain ⟨v, a, b⟩ := q x T e
    refine ⟨v, a.ext k, ?_⟩
    cases T with
    | val x' => exact Rep.mono2 up b
    | own l =>
      obtain ⟨a2, vs, e1, e2, e3, e4, e5, ⟨nn, e6⟩, e7⟩ := b
      exact ⟨a2, vs, e1, .inl e2, hid a2 e2 e3 (alive_nw a2 ⟨_, e6⟩), e4, e5, ⟨nn, k _ _ e6⟩, e7.mono2 up⟩
  · obtain ⟨e1, e2, v, o, e3, _⟩ := S.cells x cl e
    exact hid cl e1 (hF x cl e) (alive_nw cl ⟨o, e3⟩)
  · rcases hb with hb | hb
    · obtain ⟨o, e⟩ := hX b hb; exact ⟨o, ext _ _ e⟩
    · obtain ⟨o, e⟩ := al b hb
      exact ⟨o, by rw [keepH_yes (.inr (.inr hb))]; exact e⟩

/-- a turn of the iterator changed its own objects alone -/
theorem St.turn (S : St c H₁ X₂ N₁ env s₁ σ) (hF : FnE H₁ env) (hX : ∀ b, X₂ b → ∃ o, H₁.get? b = some o) (okH : c.Ok H) (eH : Ext H H₁) (hw : ∀ b ∈ wr, X₂ b) (fr : ∀ b ∈ wr, H.get? b = none) {h₂ : Heap} {tk : Nat}
    (k : ∀ b o, b ∉ wr → s₁.heap.get? b = some o → h₂.get? b = some o) (ht : 0 ≤ tk) (al : ∀ b ∈ wr, ∃ o, h₂.get? b = some o) :
    St c (keepH h₂ fun a => ¬ N₁ a ∨ X₂ a) X₂ N₁ env { s₁ with heap := h₂, toks := tk } σ ∧ FnE (keepH h₂ fun a => ¬ N₁ a ∨ X₂ a) env ∧ (∀ b, X₂ b → ∃ o, (keepH h₂ fun a => ¬ N₁ a ∨ X₂ a).get? b = some o) ∧
    Ext H (keepH h₂ fun a => ¬ N₁ a ∨ X₂ a) ∧ ∀ b o, b ∉ wr → H₁.get? b = some o → (keepH h₂ fun a => ¬ N₁ a ∨ X₂ a).get? b = some o := by
  have hid : ∀ b, N₁ b → H₁.get? b = none → (keepH h₂ fun a => ¬ N₁ a ∨ X₂ a).get? b = none ∧ b ∉ wr := fun b hN hb => by
    have nx : ¬ X₂ b := fun z => by obtain ⟨o, e⟩ := hX b z; rw [hb] at e; cases e
    refine ⟨by rw [keepH_no]; rintro (z | z); exact z hN; exact nx z, fun z => nx (hw b z)⟩
  have keep : ∀ b o, b ∉ wr → H₁.get? b = some o → (keepH h₂ fun a => ¬ N₁ a ∨ X₂ a).get? b = some o := fun b o nb e => by
    rw [keepH_yes]
    · exact k b o nb (S.kH _ _ e)
    · by_cases hN : N₁ b
      · rcases S.nX b hN with q | q
        · exact .inr q
        · rw [q] at e; cases e
      · exact .inl hN
  have ext : Ext H (keepH h₂ fun a => ¬ N₁ a ∨ X₂ a) := fun b o e => keep b o (fun z => by rw [fr b z] at e; cases e) (eH _ _ e)
  have up : ∀ b o, ¬ N₁ b → s₁.heap.get? b = some o → h₂.get? b = some o := fun b o nb e => k b o (fun z => nb (S.sup b (hw b z))) e
  have hL := hid _ S.lN S.lH
  have hC : ∀ x cl, env.cells.lookup x = some cl → (keepH h₂ fun a => ¬ N₁ a ∨ X₂ a).get? cl = none ∧ cl ∉ wr := fun x cl e => hid cl (S.cells x cl e).1 (hF x cl e)
  have cellK : ∀ x cl v, env.cells.lookup x = some cl → s₁.heap.IsCell cl v → h₂.IsCell cl v := fun x cl v e ⟨o, ho, hd⟩ => ⟨o, k _ _ (hC x cl e).2 ho, hd⟩
  refine ⟨⟨ht, okH.keeps ext, fun b o e => (keepH_some e).2, S.sup, fun a ha => ?_, fun a ha => ?_, S.lN, hL.1, S.kind, S.glob, S.blt, fun x cl e => ?_, S.capart, ?_⟩, fun x cl e => (hC x cl e).1, fun b hb => ?_, ext, keep⟩
  · rcases S.nX a ha with q | q
    · exact .inl q
    · exact .inr (hid a ha q).1
  · by_cases hw' : a ∈ wr
    · exact al a hw'
    · obtain ⟨o, e⟩ := S.alive a ha; exact ⟨o, k a o hw' e⟩
  · obtain ⟨e1, e2, v, e3⟩ := S.cells x cl e; exact ⟨e1, e2, v, cellK x cl v e e3⟩
  · obtain ⟨m, n, q, r⟩ := S.fr
    have back : ∀ x v, At env m h₂ x v → At env m s₁.heap x v := fun x v a => by
      rcases a with a | ⟨a1, cl, a2, o, a3, a4⟩
      · exact .inl a
      · obtain ⟨v', o', e3, e4⟩ := (S.cells x cl a2).2.2
        have := k _ _ (hC x cl a2).2 e3
        rw [a3] at this; cases this
        exact .inr ⟨a1, cl, a2, o, e3, a4⟩
    refine ⟨m, n.at' fun o e => k _ _ hL.2 e, fun x T e => ?_, fun x y lx ly a ex ey ax ay => r x y lx ly a ex ey (back _ _ ax) (back _ _ ay)⟩
    obtain ⟨v, a, b⟩ := q x T e
    refine ⟨v, ?_, ?_⟩
    · rcases a with a | ⟨a1, cl, a2, a3⟩
      · exact .inl a
      · exact .inr ⟨a1, cl, a2, cellK x cl _ a2 a3⟩
    · cases T with
      | val x' => exact Rep.mono up (fun _ z => z) b
      | own l =>
        obtain ⟨a2, vs, e1, e2, e3, e4, e5, ⟨nn, e6⟩, e7⟩ := b
        exact ⟨a2, vs, e1, e2, (hid a2 e2 e3).1, e4, e5, ⟨nn, k _ _ (hid a2 e2 e3).2 e6⟩, e7.mono up fun _ z => z⟩
  · by_cases hw' : b ∈ wr
    · obtain ⟨o, e⟩ := al b hw'; exact ⟨o, by rw [keepH_yes (.inr hb)]; exact e⟩
    · obtain ⟨o, e⟩ := hX b hb; exact ⟨o, keep b o hw' e⟩

/-- out of a loop -/
theorem St.leave (S : St c H₁ (fun a => X a ∨ a ∈ wr) N₁ env s₁ σ) (hF : FnE H₁ env) (hX : ∀ b, X b ∨ b ∈ wr → ∃ o, H₁.get? b = some o) (okH : c.Ok H) (eH : Ext H H₁) (hXH : ∀ b, X b → ∃ o, H.get? b = some o) (fr : ∀ b ∈ wr, H.get? b = none) {h₂ : Heap} {tk : Nat}
    (k : ∀ b o, b ∉ wr → s₁.heap.get? b = some o → h₂.get? b = some o) (ht : 0 ≤ tk) : St c H X (fun a => N₁ a ∧ a ∉ wr) env { s₁ with heap := h₂, toks := tk } σ := by
  have off : ∀ b, H₁.get? b = none → b ∉ wr := fun b hb z => by obtain ⟨o, e⟩ := hX b (.inr z); rw [hb] at e; cases e
  have hH : ∀ b, H₁.get? b = none → H.get? b = none := fun b hb => by
    cases e : H.get? b with
    | none => rfl
    | some o => have := eH _ _ e; rw [hb] at this; cases this
  have up : ∀ b o, ¬ N₁ b → s₁.heap.get? b = some o → ¬ (N₁ b ∧ b ∉ wr) ∧ h₂.get? b = some o := fun b o nb e => ⟨fun z => nb z.1, k b o (fun z => nb (S.sup b (.inr z))) e⟩
  have cellK : ∀ x cl v, env.cells.lookup x = some cl → s₁.heap.IsCell cl v → h₂.IsCell cl v := fun x cl v e ⟨o, ho, hd⟩ => ⟨o, k _ _ (off cl (hF x cl e)) ho, hd⟩
  refine ⟨ht, okH, fun b o e => k b o (fun z => by rw [fr b z] at e; cases e) (S.kH _ _ (eH _ _ e)), fun a ha => ⟨S.sup a (.inl ha), fun z => ?_⟩, fun a ha => ?_, fun a ha => ?_, ⟨S.lN, off _ S.lH⟩, hH _ S.lH, S.kind, S.glob, S.blt, fun x cl e => ?_, S.capart, ?_⟩
  · obtain ⟨o, e⟩ := hXH a ha; rw [fr a z] at e; cases e
  · rcases S.nX a ha.1 with (q | q) | q
    · exact .inl q
    · exact absurd q ha.2
    · exact .inr (hH a q)
  · obtain ⟨o, e⟩ := S.alive a ha.1; exact ⟨o, k a o ha.2 e⟩
  · obtain ⟨e1, e2, v, e3⟩ := S.cells x cl e; exact ⟨⟨e1, off cl (hF x cl e)⟩, e2, v, cellK x cl v e e3⟩
  · obtain ⟨m, n, q, r⟩ := S.fr
    have back : ∀ x v, At env m h₂ x v → At env m s₁.heap x v := fun x v a => by
      rcases a with a | ⟨a1, cl, a2, o, a3, a4⟩
      · exact .inl a
      · obtain ⟨v', o', e3, e4⟩ := (S.cells x cl a2).2.2
        have := k _ _ (off cl (hF x cl a2)) e3
        rw [a3] at this; cases this
        exact .inr ⟨a1, cl, a2, o, e3, a4⟩
    refine ⟨m, n.at' fun o e => k _ _ (off _ S.lH) e, fun x T e => ?_, fun x y lx ly a ex ey ax ay => r x y lx ly a ex ey (back _ _ ax) (back _ _ ay)⟩
    obtain ⟨v, a, b⟩ := q x T e
    refine ⟨v, ?_, ?_⟩
    · rcases a with a | ⟨a1, cl, a2, a3⟩
      · exact .inl a
      · exact .inr ⟨a1, cl, a2, cellK x cl _ a2 a3⟩
    · cases T with
      | val x' => exact Rep.mono2 up b
      | own l =>
        obtain ⟨a2, vs, e1, e2, e3, e4, e5, ⟨nn, e6⟩, e7⟩ := b
        exact ⟨a2, vs, e1, ⟨e2, off a2 e3⟩, hH a2 e3, e4, e5, ⟨nn, k _ _ (off a2 e3) e6⟩, e7.mono2 up⟩

/-! what an iterator hands out -/
def IR (c : Cx) (h : Heap) (N : Addr → Prop) : Expr → Value → V → Prop
  | .Name .., v, y => Rep c h N v y
  | .Tuple .., v, y => ∃ ys, y = .tup ys ∧ ∃ T vals, v = .ref T ∧ IsTup h T vals.toArray ∧ RepL c h N vals ys
  | _, _, _ => False
def Turns (c : Cx) (A : Around) (target : Expr) (N : Addr → Prop) (s₀ : Shared) (h' : Heap) (I : Addr) (items : List V) : Prop :=
  ∃ (fp wr : List Addr) (P Md : Nat → Value → Heap → Prop) (StI : Nat → Heap → Prop) (src : List Value) (xs : List V),
    KTurns c.prog c.w A target I fp wr items.length P Md StI ∧ StI 0 h' ∧ (∀ b ∈ wr, s₀.heap.get? b = none) ∧ (∀ b ∈ fp, ¬ N b) ∧ (∀ i hh, StI i hh → ∀ b ∈ fp, ∃ o, hh.get? b = some o) ∧ RepL c h' (fun b => N b ∨ b ∈ wr) src xs ∧
    (∀ i v hh N₂, i < items.length → P i v hh → RepL c hh N₂ src xs → ∃ y, items[i]? = some y ∧ IR c hh N₂ target v y) ∧
    ∀ i (s' : Shared) (Q : Value → Shared → Prop) (E : Value → Shared → Prop), StI i s'.heap → Q (.ref I) s' → wpAny c.M A (pyIter (.ref I)) Q E s'
structure EvI (c : Cx) (d : Nat) (env : Env) (σ : Store) (target iter : Expr) (Ψ : List V → Prop) : Prop where
  run : ∀ H X N s A (Q : Value → Shared → Prop), St c H X N env s σ → Room d A →
    (∀ I items h' tk, Ext s.heap h' → 0 ≤ tk → Turns c A target N s h' I items → Ψ items → Q (.ref I) { s with heap := h', toks := tk }) →
    wpAny c.M A (eval iter env) (fun x s₁ => wpAny c.M A (pyIter x) Q (fun _ _ => False) s₁) (fun _ _ => False) s

/-- storing into a target -/
def setAll (σ : Store) : List Str → List V → Store
  | n :: ns, y :: ys => setAll (σ.set n (.val y)) ns ys
  | _, _ => σ
def nameOf : Expr → Option Str
  | .Name x _ => some x
  | _ => none
def AsK (K : Str → Prop) (target : Expr) (y : V) (σ : Store) (Ψ : Store → Prop) : Prop :=
  match target with
  | .Name x _ => K x ∧ Ψ (σ.set x (.val y))
  | .Tuple es _ _ => ∃ ns ys, es.map nameOf = ns.map some ∧ y = .tup ys ∧ ns.length = ys.length ∧ (∀ n ∈ ns, K n) ∧ Ψ (setAll σ ns ys)
  | _ => False
abbrev AsT (env : Env) (target : Expr) (y : V) (σ : Store) (Ψ : Store → Prop) : Prop := AsK (Kept env) target y σ Ψ
theorem assignEach_names : ∀ {es : List Expr} {ns : List Str}, es.map nameOf = ns.map some → (assignEach es env).map (·.2) = (assignEach es env).map (·.2) ∧ (assignEach es env).length = ns.length ∧ (assignEach es env).findIdx? (·.1) = none
  | [], [], _ => ⟨rfl, rfl, rfl⟩
  | [], _ :: _, e => by simp at e
  | _ :: _, [], e => by simp at e
  | e :: es, n :: ns, h => by
    simp only [List.map_cons, List.cons.injEq] at h
    cases e with
    | Name x p =>
      obtain ⟨_, h2, h3⟩ := assignEach_names h.2
      refine ⟨rfl, ?_, ?_⟩
      · show (assignEach es env).length + 1 = _; rw [h2]; rfl
      · show List.findIdx? (·.1) ((false, assign (.Name x p) env) :: assignEach es env) = none
        rw [List.findIdx?_cons]; simp [h3]
    | _ => simp [nameOf] at h
theorem assign_all {A : Around} {Q : Unit → Shared → Prop} : ∀ {es : List Expr} {ns : List Str} {ys : List V} {vals : List Value} {s : Shared} {σ : Store}, es.map nameOf = ns.map some → ns.length = ys.length → (∀ n ∈ ns, KeptH H env n) → St c H X N env s σ → RepL c s.heap N vals ys →
    (∀ h' tk, 0 ≤ tk → (∀ b o, ¬ N b → s.heap.get? b = some o → h'.get? b = some o) → St c H X N env { s with heap := h', toks := tk } (setAll σ ns ys) → Q () { s with heap := h', toks := tk }) →
    wpAny c.M A (assignInOrder ((assignEach es env).map (·.2)) vals) Q (fun _ _ => False) s
  | [], [], ys, vals, s, σ, _, hl, _, S, r, q => by
    have : ys = [] := List.length_eq_zero_iff.mp hl.symm
    subst this
    simp only [RepL] at r; subst r
    exact wpAny_pure (q s.heap s.toks S.tok (fun _ _ _ e => e) S)
  | [], _ :: _, _, _, _, _, e, _, _, _, _, _ => by simp at e
  | _ :: _, [], _, _, _, _, e, _, _, _, _, _ => by simp at e
  | e :: es, n :: ns, [], vals, s, σ, h, hl, hk, S, r, q => by simp at hl
  | e :: es, n :: ns, y :: ys, vals, s, σ, h, hl, hk, S, r, q => by
    simp only [List.map_cons, List.cons.injEq] at h
    simp only [RepL] at r
    obtain ⟨v, rest, rfl, r1, r2⟩ := r
    cases e with
    | Name x p =>
      have hx : x = n := by simpa [nameOf] using h.1
      subst hx
      show wpAny c.M A (holding rest (assign (.Name x p) env v) >>= fun _ => assignInOrder ((assignEach es env).map (·.2)) rest) Q _ s
      refine wpAny_bind (wpAny_holding (wpAny_assign_Name (S.putVal (hk x (List.mem_cons_self)) r1 fun h' tk ht up S' => ?_)))
      refine assign_all h.2 (by simpa using hl) (fun m hm => hk m (List.mem_cons_of_mem _ hm)) S' (r2.mono up fun _ z => z) fun h2 tk2 ht2 up2 S2 => ?_
      exact q h2 tk2 ht2 (fun b o nb e => up2 b o nb (up b o nb e)) S2
    | _ => simp [nameOf] at h
theorem AsK.run {K : Str → Prop} {target : Expr} {y : V} {Ψ : Store → Prop} (h : AsK K target y σ Ψ) (S : St c H X N env s σ) (hK : ∀ n, K n → KeptH H env n) {A : Around} (hh : A.handled = none) {v : Value} (r : IR c s.heap N target v y) {Q : Unit → Shared → Prop}
    (q : ∀ h' tk τ, 0 ≤ tk → (∀ b o, ¬ N b → s.heap.get? b = some o → h'.get? b = some o) → St c H X N env { s with heap := h', toks := tk } τ → Ψ τ → Q () { s with heap := h', toks := tk }) : wpAny c.M A (assign target env v) Q (fun _ _ => False) s := by
  cases target with
  | Name x p =>
    obtain ⟨hk, h⟩ := h
    exact wpAny_assign_Name (S.putVal (hK _ hk) r fun h' tk ht up S' => q h' tk _ ht up S' h)
  | Tuple es k p =>
    obtain ⟨ns, ys, h1, rfl, h3, h4, h5⟩ := h
    obtain ⟨ys', e, T, vals, rfl, hT, rl⟩ := r
    cases e
    obtain ⟨_, a2, a3⟩ := assignEach_names (env := env) h1
    refine wpAny_assign_Tuple hh (t := T) (items := vals.toArray) hT (by rw [a2, h3]; simp [rl.length]) a3 fun h' hx => ?_
    have k : Ext s.heap h' := fun b o e => hx b o (Nat.ne_of_lt (Heap.lt_size e)) e
    have S' := S.ext (tk := s.toks) k S.tok
    exact assign_all h1 h3 (fun n hn => hK n (h4 n hn)) S' (rl.ext k) fun h2 tk2 ht2 up2 S2 => q h2 tk2 _ ht2 (fun b o nb e => up2 b o nb (k b o e)) S2 h5
  | _ => exact h.elim

def loopP (J : Store → Prop) (Φ : AF → Prop) : AF → Prop
  | .next τ => J τ
  | .cont τ => J τ
  | .brk τ => Φ (.next τ)
  | .ret x => Φ (.ret x)
theorem ex_for {target iter : Expr} {body : List Stmt} {pos : Pos} {Φ : AF → Prop} (Inv : List V → Nat → Store → Prop)
    (h : EvI c d env σ target iter fun items => Inv items 0 σ ∧ (∀ i y τ, items[i]? = some y → Inv items i τ → AsT env target y τ fun τ' => ExS c d env τ' body (loopP (Inv items (i + 1)) Φ)) ∧ ∀ τ, Inv items items.length τ → Φ (.next τ))
    (hs : ∀ x, foldedSetIterable iter env x = pure x := by intro _; rfl) : Ex1 c d env σ (.For target iter body [] pos) Φ := .mk fun H X N s A Q S hF hX R q => by
  refine wpAny_For (h.run H X N s A _ S R fun I items h' tk k ht T hΨ => ?_) hs
  obtain ⟨fp, wr, P, Md, StI, src, xs, W, st0, hfr, hfp, hal, rsrc, hit, _⟩ := T
  obtain ⟨hJ0, hstep, hend⟩ := hΨ
  have frH : ∀ b ∈ wr, H.get? b = none := fun b hb => by
    cases e : H.get? b with
    | none => rfl
    | some o => have := S.kH _ _ e; rw [hfr b hb] at this; cases this
  let X₂ : Addr → Prop := fun a => X a ∨ a ∈ wr
  obtain ⟨S1, F1, X1, E1⟩ := S.enter hF hX k ht hfr fun b hb => hal 0 h' st0 b (W.sub b hb)
  -- the state between the turns
  let J : Nat → Shared → Prop := fun n s' => ∃ i H₁ N₁ τ h₁ tk₁, n = items.length + 1 - i ∧ i ≤ items.length ∧ s' = { s with heap := h₁, toks := tk₁ } ∧ St c H₁ X₂ N₁ env s' τ ∧ FnE H₁ env ∧ (∀ b, X₂ b → ∃ o, H₁.get? b = some o) ∧ Ext H H₁ ∧ RepL c H₁ X₂ src xs ∧
    (∀ b ∈ fp, ∃ o, H₁.get? b = some o) ∧ StI i h₁ ∧ Inv items i τ
  refine codeAny_forLoop_any J ?_ (items.length + 1) ⟨0, _, _, σ, h', tk, rfl, Nat.zero_le _, rfl, S1, F1, X1, E1, ?_, ?_, st0, hJ0⟩
  · rintro n s' ⟨i, H₁, N₁, τ, h₁, tk₁, rfl, hi, rfl, S₁, F₁, X₁, E₁, R₁, fp₁, st₁, hJ⟩
    by_cases hlt : i < items.length
    · refine wpAny_mono (wpAny_toks_of S₁.tok (W.item i _ (fun r s₁ => ∃ v h₂ tk₂, r = some v ∧ s₁ = { s with heap := h₂, toks := tk₂ } ∧ Md i v h₂ ∧ ∀ b o, b ∉ wr → h₁.get? b = some o → h₂.get? b = some o) (fun _ _ => False) hlt st₁ fun v h₂ tk₂ hMd hk => ⟨v, h₂, tk₂, rfl, rfl, hMd, hk⟩)) (fun r s₁ z => ?_) fun _ _ z => z.2.elim
      obtain ⟨ht₂, v, h₂, tk₂, rfl, rfl, hMd, hk₂⟩ := z
      refine W.go i v _ _ _ hMd fun h₃ hP st₃ hk₃ => ?_
      have hk₃' : ∀ b o, b ∉ wr → h₁.get? b = some o → h₃.get? b = some o := fun b o nb e => hk₃ b o nb (hk₂ b o nb e)
      obtain ⟨S₃, F₃, X₃, E₃, K₃⟩ := S₁.turn (h₂ := h₃) (tk := tk₂) F₁ X₁ S.ok E₁ (fun b hb => .inr hb) frH hk₃' ht₂ fun b hb => hal _ _ st₃ b (W.sub b hb)
      have R₃ : RepL c (keepH h₃ fun a => ¬ N₁ a ∨ X₂ a) X₂ src xs := R₁.mono2 fun b o nb e => ⟨nb, K₃ b o (fun z => nb (.inr z)) e⟩
      have Rh : RepL c h₃ N₁ src xs := R₃.mono2 fun b o nb e => ⟨fun z => by rcases (keepH_some e).1 with q | q; exact q z; exact nb q, (keepH_some e).2⟩
      obtain ⟨y, hy, ir⟩ := hit i v h₃ N₁ hlt hP Rh
      have fp₃ : ∀ b ∈ fp, ∃ o, (keepH h₃ fun a => ¬ N₁ a ∨ X₂ a).get? b = some o := fun b hb => by
        by_cases hw : b ∈ wr
        · exact X₃ b (.inr hw)
        · obtain ⟨o, e⟩ := fp₁ b hb; exact ⟨o, K₃ b o hw e⟩
      refine wpAny_mono (AsK.run (hstep i y τ hy hJ) S₃ (fun n hn => hn.at F₃) R.handled ir fun h₄ tk₄ τ' ht₄ up₄ S₄ hB => ?_) (fun _ _ z => z) fun _ _ z => z.elim
      refine wpAny_mono (hB.run _ X₂ N₁ _ A (fun f s₅ => match f with | .next | .cont => ∃ m, m < items.length + 1 - i ∧ J m s₅ | .brk => Q .next s₅ | .ret v => Q (.ret v) s₅) S₄ F₃ X₃ R fun f a h₅ tk₅ ht₅ o p => ?_) (fun f s₅ z => ?_) fun _ _ z => z.elim
      · have again : ∀ τ₂, (∃ N', St c (keepH h₃ fun a => ¬ N₁ a ∨ X₂ a) X₂ N' env { s with heap := h₅, toks := tk₅ } τ₂) → Inv items (i + 1) τ₂ → ∃ m, m < items.length + 1 - i ∧ J m { s with heap := h₅, toks := tk₅ } := fun τ₂ ⟨N', S₅⟩ hJ' => by
          refine ⟨items.length + 1 - (i + 1), by omega, i + 1, _, N', τ₂, h₅, tk₅, rfl, hlt, rfl, S₅, F₃, X₃, E₃, R₃, fp₃, ?_, hJ'⟩
          refine W.frame _ _ _ st₃ fun b hb o e => ?_
          obtain ⟨o', e'⟩ := fp₃ b hb
          have e2 := (keepH_some e').2
          rw [e] at e2; cases e2
          exact S₅.kH _ _ e'
        cases f <;> cases a <;> simp only [FlOk] at o
        · exact again _ o p
        · obtain ⟨N', S₅⟩ := o
          exact q .next (.next _) h₅ tk₅ ht₅ ⟨_, S₅.leave F₃ X₃ S.ok E₃ hX frH (fun _ _ _ e => e) ht₅⟩ p
        · exact again _ o p
        · exact q (.ret _) (.ret _) h₅ tk₅ ht₅ ⟨E₃.trans o.1, o.2.weak fun _ z => .inl z⟩ p
      · cases f <;> exact z
    · have hin : i = items.length := by omega
      subst hin
      refine wpAny_mono (wpAny_toks_of S₁.tok (W.done _ (fun r s₁ => ∃ h₂ tk₂, r = none ∧ s₁ = { s with heap := h₂, toks := tk₂ } ∧ ∀ b o, b ∉ wr → h₁.get? b = some o → h₂.get? b = some o) (fun _ _ => False) st₁ fun h₂ tk₂ hk => ⟨h₂, tk₂, rfl, rfl, hk⟩)) (fun r s₁ z => ?_) fun _ _ z => z.2.elim
      obtain ⟨ht₂, h₂, tk₂, rfl, rfl, hk₂⟩ := z
      exact wpAny_execs_nil (q .next (.next τ) h₂ tk₂ ht₂ ⟨_, S₁.leave F₁ X₁ S.ok E₁ hX frH hk₂ ht₂⟩ (hend τ hJ))
  · exact rsrc.mono2 fun b o nb e => ⟨fun z => nb (z.imp (S.sup b) id), by rw [keepH_yes (.inl nb)]; exact e⟩
  · intro b hb
    obtain ⟨o, e⟩ := hal 0 h' st0 b hb
    by_cases hw : b ∈ wr
    · exact X1 b (.inr hw)
    · exact ⟨o, by rw [keepH_yes (.inl fun z => z.elim (hfp b hb) hw)]; exact e⟩
end
end Mine

namespace Mine
section
variable {c : Cx} {d : Nat} {env : Env} {σ : Store}
def TgOk : Expr → List V → Prop
  | .Name .., _ => True
  | .Tuple .., l => ∀ y ∈ l, ∃ ys, y = .tup ys
  | _, _ => False
theorem IR.of {h : Heap} {N : Addr → Prop} {target : Expr} {l : List V} {v : Value} {y : V} (t : TgOk target l) (hy : y ∈ l) (r : Rep c h N v y) : IR c h N target v y := by
  cases target with
  | Name x p => exact r
  | Tuple es k p =>
    obtain ⟨ys, rfl⟩ := t y hy
    obtain ⟨a, vs, e, _, hT, rl⟩ := r.toTup
    exact ⟨ys, rfl, a, vs, e, hT, rl⟩
  | _ => exact t.elim
theorem fresh_of {h : Heap} {a : Addr} (ha : h.objs.size ≤ a) : h.get? a = none := Heap.get?_none_of_le ha
theorem old_none {h h' : Heap} (k : Ext h h') {a : Addr} (e : h'.get? a = none) : h.get? a = none := by
  cases e' : h.get? a with
  | none => rfl
  | some o => rw [k _ _ e'] at e; cases e
theorem isList_lt {h : Heap} {a : Addr} {l : Array Value} (x : h.IsList a l) : a < h.objs.size := by obtain ⟨o, e, _⟩ := x; exact Heap.lt_size e

theorem evi_list {target iter : Expr} {Ψ : List V → Prop} (h : EvE c d env σ iter fun x => ∃ l, x = .list l ∧ TgOk target l ∧ Ψ l) : EvI c d env σ target iter Ψ := .mk fun H X N s A Q S R q => by
  refine h.run H X N s S A _ R fun v x h' tk k ht r hx => ?_
  obtain ⟨l, rfl, tg, hx⟩ := hx
  obtain ⟨a, vs, rfl, na, hp, rl⟩ := r.toList
  have hL := Heap.PlainList.isList hp
  have hlt := isList_lt hL
  have hne : a ≠ h'.objs.size := Nat.ne_of_lt hlt
  refine wpAny_pyIter_list hL ?_
  have W := KTurns.ofWalks (target := target) (Walks.list (prog := c.prog) (w := c.w) R.handled h'.objs.size a hne vs.toArray) fun i v s Q E st q => letGo_listiter st.1 q
  have e : vs.toArray.size = l.length := by simp [rl.length]
  rw [e] at W
  refine q _ l _ tk (k.trans (Ext.push _ _)) ht ⟨_, _, _, _, _, vs, l, W, ?_, ?_, ?_, ?_, ?_, ?_, ?_⟩ hx
  · exact ⟨⟨_, Heap.get?_push_size _ rfl, rfl, rfl⟩, hL.push _⟩
  · intro b hb
    rw [List.mem_singleton.mp hb]
    exact old_none k (fresh_of (Nat.le_refl _))
  · intro b hb
    rcases List.mem_cons.mp hb with rfl | hb
    · exact (S.ext k ht).av.fresh
    · rw [List.mem_singleton.mp hb]; exact na
  · rintro i hh ⟨⟨o, e, _⟩, ⟨o2, e2, _⟩⟩ b hb
    rcases List.mem_cons.mp hb with rfl | hb
    · exact ⟨o, e⟩
    · rw [List.mem_singleton.mp hb]; exact ⟨o2, e2⟩
  · refine rl.mono2 fun b o nb e => ⟨fun z => z.elim nb fun z => ?_, Heap.get?_push_of_some _ e⟩
    rw [List.mem_singleton.mp z, fresh_of (Nat.le_refl _)] at e; cases e
  · intro i v hh N₂ hi hP r2
    have hP' : vs[i]? = some v := by simpa using hP
    obtain ⟨y, hy, ry⟩ := r2.get' hP'
    exact ⟨y, hy, IR.of tg (List.mem_of_getElem? hy) ry⟩
  · exact (Walks.list (prog := c.prog) (w := c.w) R.handled h'.objs.size a hne vs.toArray).self

def rngL (a b : Int) : List V := (List.range (b - a).toNat).map fun i => .int (a + (i : Nat))
theorem evi_range {x : Str} {p : Pos} {iter : Expr} {Ψ : List V → Prop} (h : EvE c d env σ iter fun x => ∃ a b, x = .rng a b ∧ Builtin.Range.small a b 1 = true ∧ Ψ (rngL a b)) : EvI c d env σ (.Name x p) iter Ψ := .mk fun H X N s A Q S R q => by
  refine h.run H X N s S A _ R fun v y h' tk k ht r hx => ?_
  obtain ⟨a, b, rfl, hsm, hx⟩ := hx
  simp only [Rep] at r
  obtain ⟨ad, t, u, u', rfl, na, hr⟩ := r
  have hsz : Builtin.Range.rangeSize a b 1 = (((b - a).toNat : Nat) : Int) := by
    unfold Builtin.Range.rangeSize
    simp only [gt_iff_lt, Int.zero_lt_one, if_true]
    split <;> omega
  refine wpAny_pyIter_range hr hsm ?_
  rw [hsz]
  have hlen : (rngL a b).length = (b - a).toNat := by simp [rngL]
  have W := KTurns.ofWalks (target := .Name x p) (LCg.range_walks (prog := c.prog) (w := c.w) (I := h'.objs.size) R.handled a (b - a).toNat) fun i v s Q E st q => wpAny_pure q
  rw [← hlen] at W
  refine q _ (rngL a b) _ tk (k.trans (Ext.push _ _)) ht ⟨_, _, _, _, _, [], [], W, ?_, ?_, ?_, ?_, ?_, ?_, ?_⟩ hx
  · show IsRangeIter _ _ _ _ _
    rw [hlen]
    have e1 : a + ((0 : Nat) : Int) * 1 = a := by omega
    have e2 : (((b - a).toNat : Nat) : Int) - ((0 : Nat) : Int) = (((b - a).toNat : Nat) : Int) := by omega
    rw [e1, e2]
    exact Heap.get?_push_size _ rfl
  · intro b' hb
    rw [List.mem_singleton.mp hb]
    exact old_none k (fresh_of (Nat.le_refl _))
  · intro b' hb
    rw [List.mem_singleton.mp hb]; exact (S.ext k ht).av.fresh
  · intro i hh st b' hb
    rw [List.mem_singleton.mp hb]; exact ⟨_, st⟩
  · exact RepL.nil
  · rintro i v hh N₂ hi ⟨t, rfl⟩ _
    rw [hlen] at hi
    exact ⟨.int (a + (i : Nat)), by simp [rngL, hi], (Rep.int (c := c) (h := hh) (N := N₂) _ _)⟩
  · intro i s' Q E st
    exact (LCg.range_walks (prog := c.prog) (w := c.w) (I := h'.objs.size) R.handled a (rngL a b).length).self i s' Q E st

theorem evi_str {x : Str} {p : Pos} {iter : Expr} {Ψ : List V → Prop} (h : EvE c d env σ iter fun x => ∃ l, x = .str l ∧ Ψ (l.map fun ch => .str [ch])) : EvI c d env σ (.Name x p) iter Ψ := .mk fun H X N s A Q St0 R q => by
  refine h.run H X N s St0 A _ R fun v y h' tk k ht r hx => ?_
  obtain ⟨l, rfl, hx⟩ := hx
  obtain ⟨t, rfl⟩ := r.toStr
  have hsz : (S l).cps.size = l.length := by simp
  have fin : ∀ (ty : String) , (Walks c.prog c.w A h'.objs.size [h'.objs.size] [h'.objs.size] (S l).cps.size (SignAt (S l)) (fun i h => h.IsStrIter h'.objs.size ty (S l) t i)) → Q (.ref h'.objs.size) { s with heap := h'.push { cls := .type ty, data := .fields #[.str (S l) t, .int 0 0] }, toks := tk } := fun ty W => by
    have W' := KTurns.ofWalks (target := .Name x p) W fun i v s Q E st q => wpAny_pure q
    have hsz' : (S l).cps.size = (l.map fun ch => V.str [ch]).length := by simp
    rw [hsz'] at W'
    refine q _ (l.map fun ch => .str [ch]) _ tk (k.trans (Ext.push _ _)) ht ⟨_, _, _, _, _, [], [], W', ?_, ?_, ?_, ?_, ?_, ?_, ?_⟩ hx
    · exact ⟨_, Heap.get?_push_size _ rfl, rfl, rfl⟩
    · intro b' hb
      rw [List.mem_singleton.mp hb]
      exact old_none k (fresh_of (Nat.le_refl _))
    · intro b' hb
      rw [List.mem_singleton.mp hb]; exact (St0.ext k ht).av.fresh
    · rintro i hh ⟨o, e, _⟩ b' hb
      rw [List.mem_singleton.mp hb]; exact ⟨o, e⟩
    · exact RepL.nil
    · rintro i v hh N₂ hi ⟨ch, u, hc, rfl⟩ _
      have hc' : l[i]? = some ch := by simpa using hc
      exact ⟨.str [ch], by simp [hc'], (Rep.str (c := c) (h := hh) (N := N₂) [ch] u)⟩
    · exact W.self
  cases ha : (S l).cps.all (· < 128)
  · exact wpAny_pyIter_wide ha (fin _ (Walks.strWide R.handled _ _ t))
  · exact wpAny_pyIter_ascii ha (fin _ (Walks.strAscii R.handled _ _ t))

def enumL (l : List V) : List V := (l.zipIdx).map fun p => .tup [.int (p.2 : Nat), p.1]
theorem evi_enum {es : List Expr} {ke : Nat} {pe : Pos} {f : Str} {fp pos : Pos} {e : Expr} {Ψ : List V → Prop} (h : EvE c d env σ (.Name f fp) fun z => z = .raw (.type "enumerate") ∧ EvE c d env σ e fun x => ∃ l, x = .list l ∧ Ψ (enumL l))
    (he : starEach [e] env = (false, eval e env) :: starEach [] env := by rfl) : EvI c d env σ (.Tuple es ke pe) (.Call (.Name f fp) [e] [] pos) Ψ := .mk fun H X N s A Q S R q => by
  refine wpAny_Call_Name_kw (h.run H X N s S A _ R fun v x h0 tk0 k0 ht0 r0 hx => ?_)
  obtain ⟨rfl, hx⟩ := hx
  have := r0.toRaw; subst this
  have S0 := S.ext k0 ht0
  refine cw_cons (u := .type "enumerate") trivial S0.av.ok.K (spliced_more (hx.run H X N _ S0 A _ R fun v x h1 tk1 k1 ht1 r hx => spliced_none ?_) he) he rfl
  obtain ⟨l, rfl, hx⟩ := hx
  obtain ⟨a, vs, rfl, na, hp, rl⟩ := r.toList
  have S1 := S0.ext k1 ht1
  refine ⟨S1.av.ok.K, ?_⟩
  have hL := Heap.PlainList.isList hp
  have hlt := isList_lt hL
  have kk := k0.trans k1
  refine call_enumerate_list (s := { s with heap := h1, toks := tk1 }) hL fun h' hE hI hsz hk => ?_
  refine wpAny_pyIter_enum hE ?_
  have hlen : (enumL l).length = vs.toArray.size := by simp [enumL, rl.length]
  have hn0 : h1.get? h1.objs.size = none := fresh_of (Nat.le_refl _)
  have hn1 : h1.get? (h1.objs.size + 1) = none := fresh_of (Nat.le_add_right _ _)
  have W := KTurns.ofWalksU (elts := es) (k := ke) (pos := pe) (WalksT.enumerate (prog := c.prog) (w := c.w) R.handled (h1.objs.size + 1) h1.objs.size a (Nat.succ_ne_self _) (ktu_ne 1 hlt) (Nat.ne_of_lt hlt) vs.toArray).toU
  rw [← hlen] at W
  refine q _ (enumL l) h' tk1 (kk.trans hk) ht1 ⟨_, _, _, _, _, vs, l, W, ?_, ?_, ?_, ?_, ?_, ?_, ?_⟩ hx
  · exact ⟨⟨.none, hE⟩, hI, hL.at fun o e => hk a o e⟩
  · exact List.forall_mem_cons.mpr ⟨old_none kk hn1, List.forall_mem_cons.mpr ⟨old_none kk hn0, List.forall_mem_nil _⟩⟩
  · have nofr : ∀ b, h1.get? b = none → ¬ N b := fun b hb z => by
      obtain ⟨o, e⟩ := S1.alive _ z
      have e' : h1.get? b = some o := e
      rw [hb] at e'; cases e'
    exact List.forall_mem_cons.mpr ⟨nofr _ hn1, List.forall_mem_cons.mpr ⟨nofr _ hn0, List.forall_mem_cons.mpr ⟨na, List.forall_mem_nil _⟩⟩⟩
  · rintro i hh ⟨⟨old, he⟩, ⟨oi, hoi, _⟩, ⟨ol, hol, _⟩⟩
    exact List.forall_mem_cons.mpr ⟨⟨_, he⟩, List.forall_mem_cons.mpr ⟨⟨_, hoi⟩, List.forall_mem_cons.mpr ⟨⟨_, hol⟩, List.forall_mem_nil _⟩⟩⟩
  · refine rl.mono2 fun b o nb e => ⟨fun z => z.elim nb fun z => ?_, hk _ _ e⟩
    have hb' : b = h1.objs.size + 1 ∨ b = h1.objs.size := by simpa using z
    rcases hb' with rfl | rfl
    · rw [show h1.get? (h1.objs.size + 1) = none from hn1] at e; cases e
    · rw [show h1.get? h1.objs.size = none from hn0] at e; cases e
  · rintro i v hh N₂ hi ⟨T, vals, rfl, ⟨t, x, hx, rfl⟩, hT⟩ r2
    have hx' : vs[i]? = some x := by simpa using hx
    obtain ⟨y, hy, ry⟩ := r2.get' hx'
    refine ⟨.tup [.int (i : Nat), y], by simp [enumL, hy], [.int (i : Nat), y], rfl, T, [.int i t, x], rfl, hT, RepL.cons (Rep.int _ _) (RepL.cons ry RepL.nil)⟩
  · exact (WalksT.enumerate (prog := c.prog) (w := c.w) R.handled (h1.objs.size + 1) h1.objs.size a (Nat.succ_ne_self _) (ktu_ne 1 hlt) (Nat.ne_of_lt hlt) vs.toArray).self

def zipL (l₁ l₂ : List V) : List V := List.zipWith (fun a b => .tup [a, b]) l₁ l₂
theorem evi_zip {es : List Expr} {ke : Nat} {pe : Pos} {f : Str} {fp pos : Pos} {e₁ e₂ : Expr} {Ψ : List V → Prop} (h : EvE c d env σ (.Name f fp) fun z => z = .raw (.type "zip") ∧ EvE c d env σ e₁ fun x => ∃ l₁, x = .list l₁ ∧ EvE c d env σ e₂ fun x => ∃ l₂, x = .list l₂ ∧ Ψ (zipL l₁ l₂))
    (he : starEach [e₁, e₂] env = (false, eval e₁ env) :: starEach [e₂] env := by rfl) (he2 : starEach [e₂] env = (false, eval e₂ env) :: starEach [] env := by rfl) (hpl : (backTo pos (starEach [e₂] env)).any (·.1) = false := by rfl) : EvI c d env σ (.Tuple es ke pe) (.Call (.Name f fp) [e₁, e₂] [] pos) Ψ := .mk fun H X N s A Q S R q => by
  refine wpAny_Call_Name_kw (h.run H X N s S A _ R fun v x h0 tk0 k0 ht0 r0 hx => ?_)
  obtain ⟨rfl, hx⟩ := hx
  have := r0.toRaw; subst this
  have S0 := S.ext k0 ht0
  refine cw_cons (u := .type "zip") trivial S0.av.ok.K (spliced_more (hx.run H X N _ S0 A _ R fun v₁ x₁ h1 tk1 k1 ht1 r1 hx₁ => ?_) he) he hpl
  obtain ⟨l₁, rfl, hx₁⟩ := hx₁
  have S1 := S0.ext k1 ht1
  refine spliced_more (hx₁.run H X N _ S1 A _ R fun v₂ x₂ h2 tk2 k2 ht2 r2 hx₂ => spliced_none ?_) he2
  obtain ⟨l₂, rfl, hx₂⟩ := hx₂
  have S2 := S1.ext k2 ht2
  refine ⟨S2.av.ok.K, ?_⟩
  obtain ⟨a₁, vs₁, rfl, na₁, hp₁, rl₁⟩ := (r1.ext k2).toList
  obtain ⟨a₂, vs₂, rfl, na₂, hp₂, rl₂⟩ := r2.toList
  have hL₁ := Heap.PlainList.isList hp₁
  have hL₂ := Heap.PlainList.isList hp₂
  have kk := k0.trans (k1.trans k2)
  have D : ZipApart (h2.objs.size + 4) (h2.objs.size + 2) (h2.objs.size + 3) h2.objs.size (h2.objs.size + 1) a₁ a₂ := ktu_apart _ _ _ (isList_lt hL₁) (isList_lt hL₂)
  refine call_zip_2 (s := { s with heap := h2, toks := tk2 }) hL₁ hL₂ fun h' hz hTI hTO hi1 hi2 hsz hk => ?_
  refine wpAny_pyIter_zip hz ?_
  have hn : ∀ n, h2.get? (h2.objs.size + n) = none := fun n => fresh_of (Nat.le_add_right _ _)
  have hlen : (zipL l₁ l₂).length = min vs₁.toArray.size vs₂.toArray.size := by simp [zipL, rl₁.length, rl₂.length]
  have W := KTurns.ofWalksU (elts := es) (k := ke) (pos := pe) (WalksT.zip2 (prog := c.prog) (w := c.w) (A := A) R.handled _ _ _ _ _ _ _ D vs₁.toArray vs₂.toArray).toU
  rw [← hlen] at W
  have fr : ∀ n, ¬ N (h2.objs.size + n) := fun n z => by
    obtain ⟨o, e⟩ := S2.alive _ z
    have e' : h2.get? (h2.objs.size + n) = some o := e
    rw [hn n] at e'; cases e'
  refine q _ (zipL l₁ l₂) h' tk2 (kk.trans hk) ht2 ⟨_, _, _, _, _, vs₁ ++ vs₂, l₁ ++ l₂, W, ?_, ?_, ?_, ?_, ?_, ?_, ?_⟩ hx₂
  · exact ⟨hz, hTI, ⟨_, _, hTO⟩, hi1, hi2, hL₁.at fun o e => hk _ o e, hL₂.at fun o e => hk _ o e⟩
  · exact List.forall_mem_cons.mpr ⟨old_none kk (hn 4), List.forall_mem_cons.mpr ⟨old_none kk (hn 3), List.forall_mem_cons.mpr ⟨old_none kk (hn 0), List.forall_mem_cons.mpr ⟨old_none kk (hn 1), List.forall_mem_nil _⟩⟩⟩⟩
  · exact List.forall_mem_cons.mpr ⟨fr 4, List.forall_mem_cons.mpr ⟨fr 2, List.forall_mem_cons.mpr ⟨fr 3, List.forall_mem_cons.mpr ⟨fr 0, List.forall_mem_cons.mpr ⟨fr 1, List.forall_mem_cons.mpr ⟨na₁, List.forall_mem_cons.mpr ⟨na₂, List.forall_mem_nil _⟩⟩⟩⟩⟩⟩⟩
  · rintro i hh ⟨g1, g2, ⟨_, _, g3⟩, ⟨o4, g4, _⟩, ⟨o5, g5, _⟩, ⟨o6, g6, _⟩, ⟨o7, g7, _⟩⟩
    exact List.forall_mem_cons.mpr ⟨⟨_, g1⟩, List.forall_mem_cons.mpr ⟨⟨_, g2⟩, List.forall_mem_cons.mpr ⟨⟨_, g3⟩, List.forall_mem_cons.mpr ⟨⟨_, g4⟩, List.forall_mem_cons.mpr ⟨⟨_, g5⟩, List.forall_mem_cons.mpr ⟨⟨_, g6⟩, List.forall_mem_cons.mpr ⟨⟨_, g7⟩, List.forall_mem_nil _⟩⟩⟩⟩⟩⟩⟩
  · refine (rl₁.append rl₂).mono2 fun b o nb e => ⟨fun z => z.elim nb fun z => ?_, hk _ _ e⟩
    have e' : h2.get? b = some o := e
    have hb' : b = h2.objs.size + 4 ∨ b = h2.objs.size + 3 ∨ b = h2.objs.size ∨ b = h2.objs.size + 1 := by simpa using z
    rcases hb' with rfl | rfl | rfl | rfl
    · rw [hn 4] at e'; cases e'
    · rw [hn 3] at e'; cases e'
    · have := hn 0; rw [Nat.add_zero] at this; rw [this] at e'; cases e'
    · rw [hn 1] at e'; cases e'
  · rintro i v hh N₂ hi ⟨T, vals, rfl, ⟨x, y, hx, hy, rfl⟩, hT⟩ r2
    have hx' : vs₁[i]? = some x := by simpa using hx
    have hy' : vs₂[i]? = some y := by simpa using hy
    have q1 : i < vs₁.length := by
      rcases Nat.lt_or_ge i vs₁.length with q | q
      · exact q
      · rw [List.getElem?_eq_none q] at hx'; cases hx'
    have g1 : (vs₁ ++ vs₂)[i]? = some x := by rw [List.getElem?_append_left q1]; exact hx'
    have g2 : (vs₁ ++ vs₂)[vs₁.length + i]? = some y := by rw [List.getElem?_append_right (Nat.le_add_right _ _)]; simpa using hy'
    obtain ⟨u, hu, ru⟩ := r2.get' g1
    obtain ⟨z, hz', rz⟩ := r2.get' g2
    have hu' : l₁[i]? = some u := by rw [List.getElem?_append_left (by rw [← rl₁.length]; exact q1)] at hu; exact hu
    have hz2 : l₂[i]? = some z := by rw [rl₁.length, List.getElem?_append_right (Nat.le_add_right _ _)] at hz'; simpa using hz'
    exact ⟨.tup [u, z], by unfold zipL; rw [List.getElem?_zipWith, hu', hz2], [u, z], rfl, T, [x, y], rfl, hT, RepL.cons ru (RepL.cons rz RepL.nil)⟩
  · exact (WalksT.zip2 (prog := c.prog) (w := c.w) (A := A) R.handled _ _ _ _ _ _ _ D vs₁.toArray vs₂.toArray).self
end
end Mine

namespace Mine
/-! comprehensions -/
def clOf (names : List (Str × NameKind)) (env : Env) : List (Str × Addr) := (names.filterMap fun p => if p.2 == .free then (env.cells.lookup p.1).map fun a => (p.1, a) else none).reverse
theorem closureFor_go {env : Env} : ∀ (names : List (Str × NameKind)) (acc : List (Str × Addr)), (names.all fun p => p.2 != .free || (env.cells.lookup p.1).isSome) = true →
    (forIn names acc fun (p : Str × NameKind) cs => (if p.2 == .free then (do let a ← cellOf env p.1; pure (ForInStep.yield ((p.1, a) :: cs))) else pure (ForInStep.yield cs) : Sem (ForInStep (List (Str × Addr))))) = pure ((names.filterMap fun p => if p.2 == .free then (env.cells.lookup p.1).map fun a => (p.1, a) else none).reverse ++ acc)
  | [], acc, _ => by simp
  | (n, k) :: r, acc, h => by
    simp only [List.all_cons, Bool.and_eq_true] at h
    rw [List.forIn_cons]
    by_cases hk : (k == NameKind.free) = true
    · have h1 : (env.cells.lookup n).isSome = true := by
        have := h.1
        simp only [bne, hk, Bool.not_true, Bool.false_or] at this
        exact this
      obtain ⟨a, ha⟩ := Option.isSome_iff_exists.mp h1
      have hc : cellOf env n = pure a := by unfold cellOf; rw [ha]
      simp only [hk, if_true, hc, ha, List.filterMap_cons, Option.map_some, pure_bind]
      rw [closureFor_go r _ h.2]
      simp
    · simp only [hk, if_false, List.filterMap_cons, Bool.false_eq_true, pure_bind]
      rw [closureFor_go r _ h.2]
theorem closure_of {env : Env} {scope : Scope} (h : (scope.names.all fun p => p.2 != .free || (env.cells.lookup p.1).isSome) = true) : closureFor scope env = pure (clOf scope.names env) := by
  have := closureFor_go (env := env) scope.names [] h
  rw [List.append_nil] at this
  show ((forIn scope.names [] fun (p : Str × NameKind) cs => (if p.2 == .free then (do let a ← cellOf env p.1; pure (ForInStep.yield ((p.1, a) :: cs))) else pure (ForInStep.yield cs) : Sem (ForInStep (List (Str × Addr))))) >>= fun cs => pure cs) = pure (clOf scope.names env)
  rw [this]
  rfl
theorem clOf_sub {env : Env} {names : List (Str × NameKind)} {x : Str} {a : Addr} (e : (clOf names env).lookup x = some a) : env.cells.lookup x = some a := by
  have := mem_of_lookup e
  unfold clOf at this
  rw [List.mem_reverse, List.mem_filterMap] at this
  obtain ⟨⟨n, k⟩, _, h⟩ := this
  split at h
  · rw [Option.map_eq_some_iff] at h
    obtain ⟨b, hb, h2⟩ := h
    cases h2; exact hb
  · cases h
theorem lookup_mem {α : Type} : ∀ {l : List (Str × α)} {n : Str} {v : α}, (n, v) ∈ l → ∃ u, l.lookup n = some u
  | (k, v) :: r, n, u, h => by
    rw [List.lookup_cons]
    cases hb : n == k with
    | true => exact ⟨v, rfl⟩
    | false =>
      rcases List.mem_cons.mp h with e | h
      · cases e; simp at hb
      · exact lookup_mem h
theorem clOf_free {env : Env} {names : List (Str × NameKind)} {x : Str} {a : Addr} (hx : names.lookup x = some .free) (e : env.cells.lookup x = some a) : (clOf names env).lookup x = some a := by
  have hm : (x, a) ∈ clOf names env := by
    unfold clOf
    rw [List.mem_reverse, List.mem_filterMap]
    exact ⟨(x, .free), mem_of_lookup hx, by simp [e]⟩
  obtain ⟨u, hu⟩ := lookup_mem hm
  rw [hu]
  have := clOf_sub hu
  rw [e] at this; exact this.symm
theorem relabel_free {env : Env} : ∀ {names : List (Str × NameKind)} {x : Str}, names.lookup x = some .free →
    (names.map fun (n, k) => if (k == NameKind.free && env.scope.kind == .function && env.kindOf n == some .cell) then (n, NameKind.cell) else (n, k)).lookup x = some .cell ∨
    (names.map fun (n, k) => if (k == NameKind.free && env.scope.kind == .function && env.kindOf n == some .cell) then (n, NameKind.cell) else (n, k)).lookup x = some .free
  | [], _, h => by simp at h
  | (n, k) :: r, x, h => by
    have ih := @relabel_free env r x
    simp only [List.map_cons]
    rw [List.lookup_cons] at h
    cases hx : x == n with
    | true =>
      rw [hx] at h
      simp at h; subst h
      split
      · left; simp [List.lookup_cons, hx]
      · right; simp [List.lookup_cons, hx]
    | false =>
      rw [hx] at h
      split
      · simpa [List.lookup_cons, hx] using ih h
      · simpa [List.lookup_cons, hx] using ih h

section
variable {prog : Program} {w : World} {A : Around} {R : Result → Shared → Prop} {s : Shared}
theorem compLoop_any {elt target iter : Expr} {ifs : List Expr} {scope : Scope} {pos : Pos} {it acc : Value} {env : Env} (I : Nat → Shared → Prop)
    (turn : ∀ n s, I n s → wpAny (model prog w) A (pyNext it) (fun r s₁ => match r with
      | none => R (.ok .next) s₁
      | some v => wpAny (model prog w) A (letOwnedTupleGo target it v) (fun _ s₁' => wpAny (model prog w) A (assign target env v) (fun _ s₂ =>
          wpAny (model prog w) A (forIn ifs true fun c r => if r = true then do let ok ← isTrue c env (eval c env); pure (ForInStep.yield ok) else pure (ForInStep.yield r)) (fun ok s₃ =>
            if ok = true then wpAny (model prog w) A (eval elt env) (fun x s₄ =>
              wpAny (model prog w) A (call (.builtin "list.append") [acc, x]) (fun _ s₅ => ∃ m, m < n ∧ I m s₅) (fun _ _ => False) s₄) (fun _ _ => False) s₃
            else ∃ m, m < n ∧ I m s₃) (fun _ _ => False) s₂) (fun _ _ => False) s₁') (fun _ _ => False) s₁) (fun _ _ => False) s)
    (n : Nat) (h : I n s) :
    codeAny (model prog w) A (.compLoop (.ListComp elt [⟨target, iter, ifs, 0⟩] scope pos) 0 it acc env) R s := by
  refine codeAny_loop rfl I (fun n s hI => ?_) n h
  show wpAny _ A ((compTurn (.ListComp elt [⟨target, iter, ifs, 0⟩] scope pos) 0 it acc env).onRaise (fun x => do noteFrame x env; theTreesLotGoes x)) _ _ s
  refine wpAny_noted ?_
  rw [compTurn_list]
  refine wpAny_bind (wpAny_standAt (wpAny_bind (wpAny_mono (turn n s hI) (fun r s₁ h₁ => ?_) fun _ _ h' => h'.elim)))
  cases r with
  | none => exact wpAny_pure h₁
  | some v =>
    refine wpAny_bind (wpAny_mono h₁ (fun _ s₁' h₁' => ?_) fun _ _ h' => h'.elim)
    refine wpAny_bind (wpAny_mono h₁' (fun _ s₂ h₂ => wpAny_bind (wpAny_mono h₂ (fun ok s₃ h₃ => ?_) fun _ _ h' => h'.elim)) fun _ _ h' => h'.elim)
    cases ok with
    | false => exact wpAny_pure ⟨rfl, h₃⟩
    | true =>
      exact wpAny_bind (wpAny_bind (wpAny_mono h₃ (fun x s₄ h₄ => wpAny_bind (wpAny_mono h₄ (fun _ s₅ h₅ => wpAny_pure (wpAny_pure ⟨rfl, h₅⟩)) fun _ _ h' => h'.elim)) fun _ _ h' => h'.elim))
end

section
variable {c : Cx} {d : Nat} {env : Env} {σ : Store} {H : Heap} {X N : Addr → Prop} {s : Shared}
def TestsP (c : Cx) (d : Nat) (env : Env) (σ : Store) : List Expr → (Bool → Prop) → Prop
  | [], Φ => Φ true
  | t :: ts, Φ => EvT c d env σ t fun b => if b = true then TestsP c d env σ ts Φ else Φ false
theorem tests_false {ifs : List Expr} {A : Around} {Q : Bool → Shared → Prop} {s : Shared} (h : Q false s) : wpAny c.M A (forIn ifs false fun t r => if r = true then do let ok ← isTrue t env (eval t env); pure (ForInStep.yield ok) else pure (ForInStep.yield r)) Q (fun _ _ => False) s := by
  induction ifs with
  | nil => exact wpAny_pure h
  | cons t ts ih =>
    rw [List.forIn_cons]
    simp only [Bool.false_eq_true, if_false]
    exact wpAny_bind (wpAny_pure ih)
theorem TestsP.run : ∀ {ifs : List Expr} {Φ : Bool → Prop} {s : Shared}, TestsP c d env σ ifs Φ → St c H X N env s σ → ∀ {A : Around}, Room d A → ∀ {Q : Bool → Shared → Prop}, (∀ b h' tk, Ext s.heap h' → 0 ≤ tk → Φ b → Q b { s with heap := h', toks := tk }) →
    wpAny c.M A (forIn ifs true fun t r => if r = true then do let ok ← isTrue t env (eval t env); pure (ForInStep.yield ok) else pure (ForInStep.yield r)) Q (fun _ _ => False) s
  | [], Φ, s, h, S, A, R, Q, q => wpAny_pure (q true s.heap s.toks (Ext.refl _) S.tok h)
  | t :: ts, Φ, s, h, S, A, R, Q, q => by
    rw [List.forIn_cons]
    simp only [if_true]
    refine wpAny_bind (wpAny_bind (EvT.run h H X N s S A _ R fun b h' tk k ht hb => wpAny_pure ?_))
    cases b with
    | false =>
      simp only [Bool.false_eq_true, if_false] at hb
      exact tests_false (q false h' tk k ht hb)
    | true =>
      simp only [if_true] at hb
      exact TestsP.run hb (S.ext k ht) R fun b h2 tk2 k2 ht2 hb2 => q b h2 tk2 (k.trans k2) ht2 hb2

def compσ (scope : Scope) (env : Env) (σ : Store) : Store := fun x => if scope.names.lookup x = some .free ∧ env.kindOf x ≠ some .local then (match σ x with | some (.val y) => some (.val y) | _ => none) else none
abbrev cEnv (scope : Scope) (env : Env) (C : Addr) : Env := compEnvC scope (clOf scope.names env) C env
/-- the state in a comprehension's own frame: all but its own names is kept -/
theorem St.comp (S : St c H X N env s σ) {scope : Scope} (hkind : scope.kind = .function) {h : Heap} {tk : Nat} (k : Ext s.heap h) (ht : 0 ≤ tk) {C : Addr} {new : List Addr} {m : Str → Option Value} (hC : C ∈ new) (fr : ∀ b ∈ new, s.heap.get? b = none) (al : ∀ b ∈ new, ∃ o, h.get? b = some o) (hns : h.Ns C m) :
    St c (keepH h fun a => a ≠ C) (fun b => (N b ∨ b ∈ new) ∧ b ≠ C) (fun b => N b ∨ b ∈ new) (cEnv scope env C) { s with heap := h, toks := tk } (compσ scope env σ) := by
  have S' := S.ext k ht
  have frH : ∀ b ∈ new, H.get? b = none := fun b hb => by
    cases e : H.get? b with
    | none => rfl
    | some o => have := S.kH _ _ e; rw [fr b hb] at this; cases this
  have ext : Ext H (keepH h fun a => a ≠ C) := fun b o e => by
    exact (keepH_yes (p := fun a => a ≠ C) (a := b) (fun z => by rw [z, frH C hC] at e; cases e)).trans (S'.kH _ _ e)
  have up : ∀ b o, ¬ N b → s.heap.get? b = some o → ¬ (N b ∨ b ∈ new) ∧ h.get? b = some o := fun b o nb e => ⟨fun z => z.elim nb fun z => by { rw [fr b z] at e; cases e }, k b o e⟩
  have cellNew : ∀ x cl, env.cells.lookup x = some cl → cl ∉ new := fun x cl e z => by
    obtain ⟨_, _, v, o, e', _⟩ := S.cells x cl e
    rw [fr cl z] at e'; cases e'
  refine ⟨ht, S.ok.keeps ext, fun b o e => (keepH_some e).2, fun a ha => ha.1, fun a ha => ?_, fun a ha => ha.elim (S'.alive a) (al a), .inr hC, keepH_no (fun z => z rfl), hkind, S.glob, S.blt, fun x cl e => ?_, fun x y cl ex ey => S.capart x y cl (clOf_sub ex) (clOf_sub ey), m, hns, fun x T e => ?_, fun x y lx ly a ex => ?_⟩
  · by_cases hc : a = C
    · exact .inr (keepH_no fun z => z hc)
    · exact .inl ⟨ha, hc⟩
  · have e' := clOf_sub e
    obtain ⟨e1, _, v, e3⟩ := S'.cells x cl e'
    exact ⟨.inl e1, fun z => cellNew x cl e' (z ▸ hC), v, e3⟩
  · unfold compσ at e
    split at e
    · rename_i hf
      cases hx : σ x with
      | none => rw [hx] at e; cases e
      | some T' =>
        rw [hx] at e
        cases T' with
        | own l => cases e
        | val y =>
          cases e
          obtain ⟨m0, n0, q, _⟩ := S.fr
          obtain ⟨v, a, b⟩ := q x _ hx
          refine ⟨v, ?_, Rep.mono2 up b⟩
          rcases a with ⟨a1, a2⟩ | ⟨a1, cl, a2, a3⟩
          · exact absurd a1 hf.2
          · exact .inr ⟨relabel_free hf.1, cl, clOf_free hf.1 a2, a3.keeps k⟩
    · cases e
  · exfalso
    unfold compσ at ex
    split at ex
    · split at ex <;> cases ex
    · cases ex

def CompOk (c : Cx) (d : Nat) (env : Env) (σ : Store) (scope : Scope) (target : Expr) (ifs : List Expr) (elt : Expr) (Inv : List V → Nat → List V → Prop) (Ψ : List V → Prop) (items : List V) : Prop :=
  items.length ≤ sizeLine ∧ Inv items 0 [] ∧ (∀ C i y acc, items[i]? = some y → Inv items i acc → AsK (fun n => scope.names.lookup n = some .local) target y (compσ scope env σ) fun τ => TestsP c d (cEnv scope env C) τ ifs fun ok =>
    if ok = true then EvE c d (cEnv scope env C) τ elt (fun z => Inv items (i + 1) (acc ++ [z])) else Inv items (i + 1) acc) ∧ ∀ acc, Inv items items.length acc → Ψ acc

theorem comp_core {scope : Scope} {target iter elt : Expr} {ifs : List Expr} {pos : Pos} {Inv : List V → Nat → List V → Prop} {Ψ : List V → Prop} {A : Around} {RR : Value → Addr → Result → Shared → Prop} {I : Addr} {items : List V} {h' : Heap} {tk : Nat}
    (S : St c H X N env s σ) (R : Room d A) (k : Ext s.heap h') (ht : 0 ≤ tk) (T : Turns c A target N s h' I items) (ok : CompOk c d env σ scope target ifs elt Inv Ψ items)
    (hcell : ∀ y ∈ scope.names, y.2 ≠ .cell) (hkind : scope.kind = .function)
    (hRR : ∀ D C h₂ tk₂ us acc m, Ext s.heap h₂ → 0 ≤ tk₂ → s.heap.get? D = none → s.heap.get? C = none → D ≠ C → h₂.Ns C m → h₂.PlainList D us.toArray → RepL c h₂ (fun b => N b ∨ b = D ∨ b = C) us acc → Ψ acc → RR (.ref D) C (.ok .next) { s with heap := h₂, toks := tk₂ }) :
    wpAny c.M A (newList []) (fun acc s₃ => wpAny c.M A (newFunctionEnv scope env.globals (clOf scope.names env) [] env.qual none .none (some env)) (fun cenv s₄ =>
      codeAny c.M A (.compStart (.ListComp elt [⟨target, iter, ifs, 0⟩] scope pos) 0 (.ref I) acc { cenv with scope := relabel scope env }) (RR acc cenv.locals) s₄) (fun _ _ => False) s₃) (fun _ _ => False) { s with heap := h', toks := tk } := by
  obtain ⟨fp, wr, P, Md, StI, src, xs, W, st0, hfr, hfp, hal, rsrc, hit, self⟩ := T
  obtain ⟨hsz, hJ0, hstep, hend⟩ := ok
  refine wpAny_newObj_type (wpAny_newFunctionEnv hcell (by intro y hy; simp at hy) (fun h₁ hns₁ hsb₁ => ?_) hkind)
  dsimp only at hns₁ hsb₁ ⊢
  generalize hH2 : h'.push { cls := .type "list", dict := none, data := .seq ([] : List Value).toArray } = H2 at hns₁ hsb₁ ⊢
  have hCs : H2.objs.size = h'.objs.size + 1 := by rw [← hH2, Heap.size_push]
  have hDC : h'.objs.size ≠ H2.objs.size := by rw [hCs]; exact Nat.ne_of_lt (Nat.lt_succ_self _)
  have old : Ext h' h₁ := fun b o e => hsb₁.extBut b o (by rw [hCs]; exact Nat.ne_of_lt (Nat.lt_succ_of_lt (Heap.lt_size e))) (Heap.get?_push_of_some _ (hH2 ▸ Heap.get?_push_of_some _ e))
  have hD0 : h'.get? h'.objs.size = none := fresh_of (Nat.le_refl _)
  have hC0 : h'.get? H2.objs.size = none := fresh_of (by rw [hCs]; exact Nat.le_succ _)
  have hD : s.heap.get? h'.objs.size = none := old_none k hD0
  have hC : s.heap.get? H2.objs.size = none := old_none k hC0
  have hacc : h₁.PlainList h'.objs.size ([] : List Value).toArray := ⟨0, hsb₁.extBut _ _ hDC (Heap.get?_push_of_some _ (hH2 ▸ Heap.get?_push_size _ rfl))⟩
  have wal : ∀ b ∈ wr, ∃ o, h'.get? b = some o := fun b hb => hal 0 h' st0 b (W.sub b hb)
  have hDw : h'.objs.size ∉ wr := fun z => by obtain ⟨o, e⟩ := wal _ z; rw [hD0] at e; cases e
  have hCw : H2.objs.size ∉ wr := fun z => by obtain ⟨o, e⟩ := wal _ z; rw [hC0] at e; cases e
  have hfpD : h'.objs.size ∉ fp := fun z => by obtain ⟨o, e⟩ := hal 0 h' st0 _ z; rw [hD0] at e; cases e
  have hfpC : H2.objs.size ∉ fp := fun z => by obtain ⟨o, e⟩ := hal 0 h' st0 _ z; rw [hC0] at e; cases e
  let new : List Addr := H2.objs.size :: h'.objs.size :: wr
  let N₁ : Addr → Prop := fun b => N b ∨ b ∈ new
  have newfr : ∀ b ∈ new, s.heap.get? b = none := fun b hb => by
    rcases List.mem_cons.mp hb with rfl | hb
    · exact hC
    · rcases List.mem_cons.mp hb with rfl | hb
      · exact hD
      · exact hfr b hb
  have rsrc₁ : RepL c h₁ N₁ src xs := rsrc.mono2 fun b o nb e => ⟨fun z => z.elim (fun z => nb (.inl z)) fun z => by
      rcases List.mem_cons.mp z with rfl | z
      · rw [hC0] at e; cases e
      · rcases List.mem_cons.mp z with rfl | z
        · rw [hD0] at e; cases e
        · exact nb (.inr z), old b o e⟩
  let J : Nat → Shared → Prop := fun n s' => ∃ i h₂ tk₂ us acc m, n = items.length + 1 - i ∧ i ≤ items.length ∧ s' = { s with heap := h₂, toks := tk₂ } ∧ Ext s.heap h₂ ∧ 0 ≤ tk₂ ∧ StI i h₂ ∧ h₂.Ns H2.objs.size m ∧ h₂.PlainList h'.objs.size us.toArray ∧ RepL c h₂ N₁ us acc ∧ acc.length ≤ i ∧ RepL c h₂ N₁ src xs ∧ Inv items i acc
  have loop : ∀ s₃ : Shared, s₃ = { s with heap := h₁, toks := tk + ([] : List (Str × Value)).length } →
      codeAny c.M A (.compLoop (.ListComp elt [⟨target, iter, ifs, 0⟩] scope pos) 0 (.ref I) (.ref h'.objs.size) (cEnv scope env H2.objs.size)) (RR (.ref h'.objs.size) H2.objs.size) s₃ := by
    rintro s₃ rfl
    refine compLoop_any J ?_ (items.length + 1) ⟨0, h₁, _, [], [], _, rfl, Nat.zero_le _, rfl, k.trans old, by simpa using ht, W.frame _ _ _ st0 fun b _ o e => old b o e, hns₁, hacc, RepL.nil, Nat.le_refl _, rsrc₁, hJ0⟩
    rintro n s' ⟨i, h₂, tk₂, us, acc, m, rfl, hi, rfl, k₂, ht₂, st₂, ns₂, pl₂, ru₂, hal₂, rs₂, hJ⟩
    by_cases hlt : i < items.length
    · refine wpAny_mono (wpAny_toks_of (n := 0) ht₂ (W.item i _ (fun r s₁ => ∃ v h₃ tk₃, r = some v ∧ s₁ = { s with heap := h₃, toks := tk₃ } ∧ Md i v h₃ ∧ ∀ b o, b ∉ wr → h₂.get? b = some o → h₃.get? b = some o) (fun _ _ => False) hlt st₂ fun v h₃ tk₃ hMd hk => ⟨v, h₃, tk₃, rfl, rfl, hMd, hk⟩)) (fun r s₁ z => ?_) fun _ _ z => z.2.elim
      obtain ⟨ht₃, v, h₃, tk₃, rfl, rfl, hMd, hk₃⟩ := z
      refine W.go i v _ _ _ hMd fun h₄ hP st₄ hk₄ => ?_
      have hk : ∀ b o, b ∉ wr → h₂.get? b = some o → h₄.get? b = some o := fun b o nb e => hk₄ b o nb (hk₃ b o nb e)
      have k₄ : Ext s.heap h₄ := fun b o e => hk b o (fun z => by rw [hfr b z] at e; cases e) (k₂ b o e)
      have up₄ : ∀ b o, ¬ N₁ b → h₂.get? b = some o → h₄.get? b = some o := fun b o nb e => hk b o (fun z => nb (.inr (List.mem_cons_of_mem _ (List.mem_cons_of_mem _ z)))) e
      have ns₄ : h₄.Ns H2.objs.size m := ns₂.at' fun o e => hk _ o hCw e
      have pl₄ : h₄.PlainList h'.objs.size us.toArray := Heap.PlainList.at pl₂ fun o e => hk _ o hDw e
      have al₄ : ∀ b ∈ new, ∃ o, h₄.get? b = some o := fun b hb => by
        rcases List.mem_cons.mp hb with rfl | hb
        · obtain ⟨o, _, _, e, _⟩ := ns₄; exact ⟨o, e⟩
        · rcases List.mem_cons.mp hb with rfl | hb
          · obtain ⟨o, e⟩ := pl₄; exact ⟨_, e⟩
          · exact hal _ _ st₄ b (W.sub b hb)
      have rs₄ : RepL c h₄ N₁ src xs := rs₂.mono up₄ fun _ z => z
      have ru₄ : RepL c h₄ N₁ us acc := ru₂.mono up₄ fun _ z => z
      obtain ⟨y, hy, ir⟩ := hit i v h₄ N₁ hlt hP rs₄
      have S₄ := S.comp hkind k₄ ht₃ (C := H2.objs.size) (new := new) List.mem_cons_self newfr al₄ ns₄
      refine AsK.run (hstep H2.objs.size i y acc hy hJ) S₄ (fun n hn => .inl (lookup_relabel_local hn)) R.handled ir fun h₅ tk₅ τ ht₅ up₅ S₅ hB => ?_
      have k₅ : ∀ b o, b ≠ H2.objs.size → h₄.get? b = some o → h₅.get? b = some o := fun b o nb e => S₅.kH b o ((keepH_yes (p := fun a => a ≠ H2.objs.size) (a := b) nb).trans e)
      refine hB.run S₅ R fun okb h₆ tk₆ k₆ ht₆ hok => ?_
      have S₆ := S₅.ext k₆ ht₆
      have k46 : ∀ b o, b ≠ H2.objs.size → h₄.get? b = some o → h₆.get? b = some o := fun b o nb e => k₆ b o (k₅ b o nb e)
      have fin : ∀ h₇ tk₇ us' acc', Ext h₆ h₇ ∨ (∀ b o, b ≠ h'.objs.size → h₆.get? b = some o → h₇.get? b = some o) → 0 ≤ tk₇ → h₇.PlainList h'.objs.size us'.toArray → RepL c h₇ N₁ us' acc' → acc'.length ≤ i + 1 → Inv items (i + 1) acc' → ∃ m', m' < items.length + 1 - i ∧ J m' { s with heap := h₇, toks := tk₇ } := fun h₇ tk₇ us' acc' k₇ ht₇ pl₇ ru₇ hl₇ hJ₇ => by
        have k₇' : ∀ b o, b ≠ h'.objs.size → h₆.get? b = some o → h₇.get? b = some o := fun b o nb e => k₇.elim (fun z => z b o e) fun z => z b o nb e
        obtain ⟨m₅, n₅, _, _⟩ := S₆.fr
        have nw : ∀ b, ¬ N₁ b → b ≠ h'.objs.size ∧ b ≠ H2.objs.size := fun b nb => ⟨fun z => nb (.inr (z ▸ List.mem_cons_of_mem _ List.mem_cons_self)), fun z => nb (.inr (z ▸ List.mem_cons_self))⟩
        refine ⟨items.length + 1 - (i + 1), by omega, i + 1, h₇, tk₇, us', acc', m₅, rfl, hlt, rfl, fun b o e => ?_, ht₇, ?_, n₅.at' fun o e => k₇' _ o (Ne.symm hDC) e, pl₇, ru₇, hl₇, ?_, hJ₇⟩
        · exact k₇' b o (fun z => by rw [z, hD] at e; cases e) (k46 b o (fun z => by rw [z, hC] at e; cases e) (k₄ b o e))
        · exact W.frame _ _ _ st₄ fun b hb o e => k₇' b o (fun z => hfpD (z ▸ hb)) (k46 b o (fun z => hfpC (z ▸ hb)) e)
        · exact rs₄.mono (fun b o nb e => k₇' b o (nw b nb).1 (k46 b o (nw b nb).2 e)) fun _ z => z
      have pl₆ : h₆.PlainList h'.objs.size us.toArray := Heap.PlainList.at pl₄ fun o e => k46 _ o hDC e
      have ru₆ : RepL c h₆ N₁ us acc := ru₄.mono (fun b o nb e => k46 b o (fun z => nb (.inr (z ▸ List.mem_cons_self))) e) fun _ z => z
      cases okb with
      | false =>
        simp only [Bool.false_eq_true, if_false] at hok ⊢
        exact fin h₆ tk₆ us acc (.inl (Ext.refl _)) ht₆ pl₆ ru₆ (Nat.le_succ_of_le hal₂) hok
      | true =>
        simp only [if_true] at hok ⊢
        refine hok.run _ _ _ _ S₆ A _ R fun v' z h₇ tk₇ k₇ ht₇ rz hz => ?_
        have pl₇ : h₇.PlainList h'.objs.size us.toArray := Heap.PlainList.at pl₆ fun o e => k₇ _ o e
        refine wpAny_list_append_plain pl₇ (fun h₈ hp₈ hs₈ => ?_) (by rw [List.size_toArray, ru₂.length]; omega)
        have up₈ : ∀ b o, ¬ N₁ b → h₇.get? b = some o → h₈.get? b = some o := fun b o nb e => hs₈.extBut b o (fun z => nb (.inr (z ▸ List.mem_cons_of_mem _ List.mem_cons_self))) e
        refine fin h₈ tk₇ (us ++ [v']) (acc ++ [z]) (.inr fun b o nb e => hs₈.extBut b o nb (k₇ b o e)) ht₇ (by simpa using hp₈) ((((ru₆.ext k₇).mono up₈ fun _ z => z)).append (RepL.cons (rz.mono up₈ fun _ z => z) RepL.nil)) (by rw [List.length_append, List.length_singleton]; omega) hz
    · have hin : i = items.length := by omega
      subst hin
      refine wpAny_mono (wpAny_toks_of (n := 0) ht₂ (W.done _ (fun r s₁ => ∃ h₃ tk₃, r = none ∧ s₁ = { s with heap := h₃, toks := tk₃ } ∧ ∀ b o, b ∉ wr → h₂.get? b = some o → h₃.get? b = some o) (fun _ _ => False) st₂ fun h₃ tk₃ hk => ⟨h₃, tk₃, rfl, rfl, hk⟩)) (fun r s₁ z => ?_) fun _ _ z => z.2.elim
      obtain ⟨ht₃, h₃, tk₃, rfl, rfl, hk⟩ := z
      refine hRR _ _ h₃ tk₃ us acc m (fun b o e => hk b o (fun z => by rw [hfr b z] at e; cases e) (k₂ b o e)) ht₃ hD hC hDC (ns₂.at' fun o e => hk _ o hCw e) (Heap.PlainList.at pl₂ fun o e => hk _ o hDw e) (ru₂.mono2 fun b o nb e => ⟨fun z => nb ?_, hk b o (fun z => nb (.inr (List.mem_cons_of_mem _ (List.mem_cons_of_mem _ z)))) e⟩) (hend acc hJ)
      rcases z with z | rfl | rfl
      · exact .inl z
      · exact .inr (List.mem_cons_of_mem _ List.mem_cons_self)
      · exact .inr List.mem_cons_self
  exact codeAny_compStart_list (loop _ rfl) (self 0 _ _ _ (W.frame _ _ _ st0 fun b _ o e => old b o e) (loop _ rfl))
end
end Mine

namespace Mine
section
variable {c : Cx} {d : Nat} {env : Env} {σ : Store}
/-- what the comprehension's scope must be -/
def scopeOk (scope : Scope) (env : Env) : Bool := scope.names.all (fun p => p.2 != .free || (env.cells.lookup p.1).isSome) && scope.names.all (fun p => p.2 != .cell) && scope.names.all fun p => p.2 != .local || scope.names.lookup p.1 == some .local
theorem scopeOk.parts {scope : Scope} {env : Env} (h : scopeOk scope env = true) : (scope.names.all fun p => p.2 != .free || (env.cells.lookup p.1).isSome) = true ∧ (∀ y ∈ scope.names, y.2 ≠ .cell) ∧ ∀ x ∈ scope.names, x.2 = .local → scope.names.lookup x.1 = some .local := by
  unfold scopeOk at h
  simp only [Bool.and_eq_true] at h
  refine ⟨h.1.1, fun y hy => ?_, fun x hx hl => ?_⟩
  · have := List.all_eq_true.mp h.1.2 y hy
    simpa using this
  · have := List.all_eq_true.mp h.2 x hx
    rw [hl] at this
    simpa using this
theorem ef_comp {scope : Scope} {target iter elt : Expr} {ifs : List Expr} {pos : Pos} {Ψ : List V → Prop} (Inv : List V → Nat → List V → Prop)
    (h : EvI c d env σ target iter (CompOk c d env σ scope target ifs elt Inv Ψ)) (hsc : scopeOk scope env = true := by rfl) (hkind : scope.kind = .function := by rfl) (hs : ∀ x, foldedSetIterable iter env x = pure x := by intro _; rfl) :
    EvF c d env σ (.ListComp elt [⟨target, iter, ifs, 0⟩] scope pos) Ψ := .mk fun H X N s S A Q R q => by
  obtain ⟨h1, h2, h3⟩ := scopeOk.parts hsc
  rw [eval_ListComp]
  refine wpAny_comprehension_free (use := none) rfl hs (closure_of h1) hkind h3 (h.run H X N s A _ S R fun I items h' tk k ht T ok => ?_)
  refine comp_core (RR := fun acc C => compPost c.M A (fun _ _ => False) none Q acc C) S R k ht T ok h2 hkind fun D C h₂ tk₂ us acc m k₂ ht₂ hD hC hDC hns hp hr hψ => ?_
  refine ⟨m, hns, fun h₃ hs₃ => ?_⟩
  exact q D us acc h₃ tk₂ (fun b o e => hs₃.extBut b o (fun z => by rw [z, hC] at e; cases e) (k₂ b o e)) ht₂ hD (Heap.PlainList.at hp fun o e => hs₃.extBut _ o hDC e)
    (hr.mono2 fun b o nb e => ⟨fun z => nb (z.imp id .inl), hs₃.extBut b o (fun z => nb (.inr (.inr z))) e⟩) hψ
/-- a finished frame C is let go -/
theorem St.dropNs {H : Heap} {X N₁ : Addr → Prop} {s : Shared} (S : St c H X N₁ env s σ) {C : Addr} {m' : Str → Option Value} {h : Heap} {tk : Nat} (ht : 0 ≤ tk) (hX : ¬ X C) (hCH : H.get? C = none) (hN : N₁ C) (hns : s.heap.Ns C m') (hLC : env.locals ≠ C)
    (k : ∀ b o, b ≠ C → s.heap.get? b = some o → h.get? b = some o) : St c H X (fun b => N₁ b ∧ b ≠ C) env { s with heap := h, toks := tk } σ := by
  obtain ⟨oC, es, ep, hoC, hdC, _⟩ := hns
  have hcell : ∀ x cl, env.cells.lookup x = some cl → cl ≠ C := fun x cl e z => by
    obtain ⟨_, _, v, o, e1, e2⟩ := S.cells x cl e
    rw [z, hoC] at e1; cases e1; rw [hdC] at e2; cases e2
  have hown : ∀ a vs, s.heap.PlainList a vs → a ≠ C := fun a vs ⟨n, e⟩ z => by
    rw [z, hoC] at e; cases e; cases hdC
  have up : ∀ b o, ¬ N₁ b → s.heap.get? b = some o → ¬ (N₁ b ∧ b ≠ C) ∧ h.get? b = some o := fun b o nb e => ⟨fun z => nb z.1, k b o (fun z => nb (z ▸ hN)) e⟩
  have cellK : ∀ x cl v, env.cells.lookup x = some cl → s.heap.IsCell cl v → h.IsCell cl v := fun x cl v e ⟨o, ho, hd⟩ => ⟨o, k _ _ (hcell x cl e) ho, hd⟩
  refine ⟨ht, S.ok, fun b o e => k b o (fun z => by rw [z, hCH] at e; cases e) (S.kH _ _ e), fun a ha => ⟨S.sup a ha, fun z => hX (z ▸ ha)⟩, fun a ha => S.nX a ha.1, fun a ha => ?_, ⟨S.lN, hLC⟩, S.lH, S.kind, S.glob, S.blt, fun x cl e => ?_, S.capart, ?_⟩
  · obtain ⟨o, e⟩ := S.alive a ha.1; exact ⟨o, k a o ha.2 e⟩
  · obtain ⟨e1, e2, v, e3⟩ := S.cells x cl e; exact ⟨⟨e1, hcell x cl e⟩, e2, v, cellK x cl v e e3⟩
  · obtain ⟨m, n, q, r⟩ := S.fr
    have back : ∀ x v, At env m h x v → At env m s.heap x v := fun x v a => by
      rcases a with a | ⟨a1, cl, a2, o, a3, a4⟩
      · exact .inl a
      · obtain ⟨v', o', e3, e4⟩ := (S.cells x cl a2).2.2
        have := k _ _ (hcell x cl a2) e3
        rw [a3] at this; cases this
        exact .inr ⟨a1, cl, a2, o, e3, a4⟩
    refine ⟨m, n.at' fun o e => k _ _ hLC e, fun x T e => ?_, fun x y lx ly a ex ey ax ay => r x y lx ly a ex ey (back _ _ ax) (back _ _ ay)⟩
    obtain ⟨v, a, b⟩ := q x T e
    refine ⟨v, ?_, ?_⟩
    · rcases a with a | ⟨a1, cl, a2, a3⟩
      · exact .inl a
      · exact .inr ⟨a1, cl, a2, cellK x cl _ a2 a3⟩
    · cases T with
      | val x' => exact Rep.mono2 up b
      | own l =>
        obtain ⟨a2, vs, e1, e2, e3, e4, e5, e6, e7⟩ := b
        exact ⟨a2, vs, e1, ⟨e2, hown a2 _ e6⟩, e3, e4, e5, Heap.PlainList.at e6 fun o e => k _ o (hown a2 _ e6) e, e7.mono2 up⟩
theorem ex_assign_comp {scope : Scope} {target iter elt : Expr} {ifs : List Expr} {pos py spos : Pos} {y : Str} {Φ : AF → Prop} (Inv : List V → Nat → List V → Prop) (hy : env.kindOf y = some .local)
    (h : EvI c d env σ target iter (CompOk c d env σ scope target ifs elt Inv fun l => Φ (.next (σ.set y (.val (.list l))))))
    (hsw : swapsWith (.ListComp elt [⟨target, iter, ifs, 0⟩] scope pos) (some (.Name y py)) spos.line env = pure true := by rfl)
    (hsc : scopeOk scope env = true := by rfl) (hkind : scope.kind = .function := by rfl) (hs : ∀ x, foldedSetIterable iter env x = pure x := by intro _; rfl) :
    Ex1 c d env σ (.Assign [.Name y py] (.ListComp elt [⟨target, iter, ifs, 0⟩] scope pos) spos) Φ := .mk fun H X N s A Q S hF hX R q => by
  obtain ⟨h1, h2, h3⟩ := scopeOk.parts hsc
  rw [exec_Assign_Name_used _ _ _ _ hsw]
  refine wpAny_bind (wpAny_standAt (wpAny_bind ?_))
  show wpAny _ A (do let _ ← comprehension (.ListComp elt [⟨target, iter, ifs, 0⟩] scope pos) scope env _ (newList []) false (eval iter env) (some (assign (.Name y py) env))) _ _ s
  refine wpAny_bind (wpAny_mono (wpAny_comprehension_free (use := some (assign (.Name y py) env)) (Q := fun _ s' => Q .next s') (E := fun _ _ => False) rfl hs (closure_of h1) hkind h3 (h.run H X N s A _ S R fun I items h' tk k ht T ok => ?_)) (fun _ s' hq => wpAny_pure (wpAny_pure hq)) fun _ _ e => e)
  refine comp_core (RR := fun acc C => compPost c.M A (fun _ _ => False) (some (assign (.Name y py) env)) (fun _ s' => Q .next s') acc C) S R k ht T ok h2 hkind fun D C h₂ tk₂ us acc m k₂ ht₂ hD hC hDC hns hp hr hψ => ?_
  show wpAny _ A (assign (.Name y py) env (.ref D)) _ _ _
  have nD : ¬ N D := fun z => by obtain ⟨o, e⟩ := S.alive D z; rw [hD] at e; cases e
  have nC : ¬ N C := fun z => by obtain ⟨o, e⟩ := S.alive C z; rw [hC] at e; cases e
  have hCH : H.get? C = none := old_none S.kH hC
  have S2 := S.extOwn k₂ ht₂ hC (by obtain ⟨o, _, _, e, _⟩ := hns; exact ⟨o, e⟩)
  have rD : Rep c h₂ (fun b => N b ∨ b = C) (.ref D) (.list acc) := by rw [Rep]; exact ⟨D, us, rfl, fun z => z.elim nD hDC, hp, hr.mono2 fun b o nb e => ⟨fun z => nb (z.imp id .inr), e⟩⟩
  have hLC : env.locals ≠ C := fun z => nC (z ▸ S.lN)
  have hXC : ¬ X C := fun z => nC (S.sup C z)
  have cC : ∀ x, env.cells.lookup x ≠ some C := fun x e => nC (S.cells x C e).1
  refine wpAny_assign_Name (S2.put (.inl hy) (T := .val (.list acc)) rD (fun _ e => nomatch e) fun h₃ tk₃ ht₃ up S3 => ?_)
  have ns3 : h₃.Ns C m := hns.at' fun o e => up C o (Ne.symm hLC) cC e
  refine ⟨m, ns3, fun h₄ hs₄ => ?_⟩
  exact q .next (.next _) h₄ tk₃ ht₃ ⟨_, S3.dropNs ht₃ hXC hCH (.inr rfl) ns3 hLC fun b o nb e => hs₄.extBut b o nb e⟩ hψ
end
end Mine

namespace Mine
theorem setItem_plain {prog : Program} {w : World} {A : Around} {E : Value → Shared → Prop} {s : Shared} {l : Addr} {items : Array Value} {k : Int} {t : Tok} {v : Value} {Q : Unit → Shared → Prop} (hp : s.heap.PlainList l items)
    (h0 : 0 ≤ k) (hfit : k < 2 ^ 63) (hn : k < items.size)
    (hQ : ∀ h', h'.PlainList l (items.setIfInBounds k.toNat v) → Heap.SameBut l s.heap h' → Q () { s with heap := h' }) :
    wpAny (model prog w) A (setItem (.ref l) (.int k t) v) Q E s := by
  have hl := Heap.PlainList.isList hp
  obtain ⟨ne, ho⟩ := hp
  have hd : ({ cls := .type "list", data := .seq items ne } : Obj).data = .seq items ne := rfl
  unfold setItem
  try with_reducible refine wpAny_holding ?_
  first | refine wpAny_bind (wpAny_pure ?_) | skip
  refine wpAny_bind (wpAny_sequenceKey hl.typeIs (by decide) ?_)
  refine wpAny_bind (wpAny_callSpecial?_slot (name := Str.ofString "__setitem__") hl.typeIs slot_list_setitem
    (wpAny_call_entry slot_list_setitem hl.typeIs entry_list_setitem ?_ (args_list_setitem _ _ _)))
  show wpAny _ _ (Builtin.List.listSubscript? (.int k t) >>= _) _ _ s
  refine wpAny_bind (wpAny_listSubscript_int (fitsIndex_of h0 hfit) ?_)
  clear hfit
  obtain ⟨j, rfl⟩ := Int.eq_ofNat_of_zero_le h0
  have hj : j < items.size := by omega
  have hx' : items[j]? = some items[j] := Array.getElem?_eq_getElem hj
  show wpAny _ _ ((seqItemAt l j >>= fun r => pure (r.map (j, ·))) >>= _) _ _ s
  refine wpAny_bind (wpAny_bind (wpAny_seqItemAt ho hd (wpAny_pure ?_)))
  rw [hx']
  show wpAny _ _ (setSeqItemAt l j v >>= _) _ _ s
  have hfin : (s.heap.update l (Obj.mapSeq (·.setIfInBounds j v))).PlainList l (items.setIfInBounds j v) :=
    ⟨_, Heap.get?_update_self _ ho rfl⟩
  refine wpAny_bind (wpAny_setSeqItemAt ho hd ?_)
  first
    | exact wpAny_bind (wpAny_pure (wpAny_pure ⟨.none, rfl, wpAny_pure (hQ _ hfin (Heap.SameBut.update ..))⟩))
    | exact wpAny_pure ⟨.none, rfl, wpAny_pure (hQ _ hfin (Heap.SameBut.update ..))⟩
section
variable {c : Cx} {d : Nat} {env : Env} {σ : Store} {Φ : AF → Prop}
theorem ex_assign_own {x : Str} {p pos : Pos} {e : Expr} (hk : Kept env x) (h : EvF c d env σ e fun l => Φ (.next (σ.set x (.own l)))) (hs : swapsWith e (some (.Name x p)) pos.line env = pure false := by rfl) : Ex1 c d env σ (.Assign [.Name x p] e pos) Φ := .mk fun H X N s A Q S hF hX R q =>
  wpAny_Assign_Name (h.run H X N s S A _ R fun a vs l h' tk k ht ha hp r hΨ => S.putOwn (hk.at hF) k ht ha hp r fun h2 tk2 ht2 S2 => q .next (.next _) h2 tk2 ht2 ⟨_, S2⟩ hΨ) hs

/-- an owned list changes in place -/
theorem St.ownUpd {H : Heap} {X N : Addr → Prop} {s : Shared} (S : St c H X N env s σ) {x : Str} {l l' : List V} (hx : σ x = some (.own l)) {a : Addr} {m₀ : Str → Option Value} (hn₀ : s.heap.Ns env.locals m₀) (hat : At env m₀ s.heap x (.ref a)) {h' : Heap} {tk : Nat} (ht : 0 ≤ tk) (hs : Heap.SameBut a s.heap h') {vs' : List Value} (hp : h'.PlainList a vs'.toArray) (hr : RepL c h' N vs' l') :
    St c H X N env { s with heap := h', toks := tk } (σ.set x (.own l')) := by
  obtain ⟨m, n, q, r⟩ := S.fr
  have nm : m₀ = m := by
    obtain ⟨o1, es1, ep1, g1, d1, _, f1⟩ := hn₀
    obtain ⟨o2, es2, ep2, g2, d2, _, f2⟩ := n
    have : some o1 = some o2 := g1.symm.trans g2
    cases this
    rw [d1] at d2; cases d2
    funext z; rw [← f1, ← f2]
  subst nm
  obtain ⟨v, av, bv⟩ := q x _ hx
  obtain ⟨b, vs, rfl, bN, bH, bL, bC, bp, br⟩ := bv
  have ab : a = b := by
    have : (Value.ref a) = .ref b := by
      rcases hat with ⟨a1, a2⟩ | ⟨a1, c2, a2, o3, a3, a4⟩ <;> rcases av with ⟨b1, b2⟩ | ⟨b1, c3, b2, o4, b3, b4⟩
      · rw [a2] at b2; exact Option.some.inj b2
      · rw [a1] at b1; rcases b1 with b1 | b1 <;> cases b1
      · rw [b1] at a1; rcases a1 with a1 | a1 <;> cases a1
      · rw [a2] at b2; cases b2; rw [a3] at b3; cases b3; rw [a4] at b4; cases b4; rfl
    exact Value.ref.inj this
  subst ab
  have up : ∀ b o, b ≠ a → s.heap.get? b = some o → h'.get? b = some o := fun b o nb e => hs.extBut b o nb e
  have upN : ∀ b o, ¬ N b → s.heap.get? b = some o → h'.get? b = some o := fun b o nb e => up b o (fun z => nb (z ▸ bN)) e
  have cellK : ∀ x cl v, env.cells.lookup x = some cl → s.heap.IsCell cl v → h'.IsCell cl v := fun x cl v e ⟨o, ho, hd⟩ => ⟨o, up _ _ (bC x cl e) ho, hd⟩
  have back : ∀ x v, At env m₀ h' x v → At env m₀ s.heap x v := fun x v z => by
    rcases z with z | ⟨a1, cl, a2, o, a3, a4⟩
    · exact .inl z
    · obtain ⟨v', o', e3, e4⟩ := (S.cells x cl a2).2.2
      have := up _ _ (bC x cl a2) e3
      rw [a3] at this; cases this
      exact .inr ⟨a1, cl, a2, o, e3, a4⟩
  have fwd : ∀ x v, At env m₀ s.heap x v → At env m₀ h' x v := fun x v z => by
    rcases z with z | ⟨a1, cl, a2, a3⟩
    · exact .inl z
    · exact .inr ⟨a1, cl, a2, cellK x cl _ a2 a3⟩
  refine ⟨ht, S.ok, fun b o e => up b o (fun z => by rw [z, bH] at e; cases e) (S.kH _ _ e), S.sup, S.nX, fun b hb => ?_, S.lN, S.lH, S.kind, S.glob, S.blt, fun x cl e => ?_, S.capart, m₀, n.at' fun o e => up _ _ (Ne.symm bL) e, fun y T e => ?_, fun y z ly lz b ey ez ay az => ?_⟩
  · by_cases hb' : b = a
    · obtain ⟨nn, e⟩ := hp; exact ⟨_, hb' ▸ e⟩
    · obtain ⟨o, e⟩ := S.alive b hb; exact ⟨o, up b o hb' e⟩
  · obtain ⟨e1, e2, v, e3⟩ := S.cells x cl e; exact ⟨e1, e2, v, cellK x cl v e e3⟩
  · by_cases hy : y = x
    · subst hy
      simp only [Store.set, if_true] at e; cases e
      exact ⟨.ref a, fwd _ _ av, a, vs', rfl, bN, bH, bL, bC, hp, hr⟩
    · simp only [Store.set, if_neg hy] at e
      obtain ⟨u, au, bu⟩ := q y T e
      refine ⟨u, fwd _ _ au, ?_⟩
      cases T with
      | val x' => exact Rep.mono upN (fun _ z => z) bu
      | own l2 =>
        obtain ⟨a2, us, rfl, e2, e3, e4, e5, e6, e7⟩ := bu
        have hne : a2 ≠ a := fun z => hy (r y x l2 l a e hx (z ▸ au) av)
        exact ⟨a2, us, rfl, e2, e3, e4, e5, Heap.PlainList.at e6 fun o e => up _ o hne e, e7.mono upN fun _ z => z⟩
  · have key : ∀ w lw, (σ.set x (.own l')) w = some (.own lw) → ∃ l0, σ w = some (.own l0) := fun w lw e => by
      by_cases hw : w = x
      · exact ⟨l, hw ▸ hx⟩
      · simp only [Store.set, if_neg hw] at e; exact ⟨_, e⟩
    obtain ⟨l1, e1⟩ := key y ly ey
    obtain ⟨l2, e2⟩ := key z lz ez
    exact r y z l1 l2 b e1 e2 (back _ _ ay) (back _ _ az)

/-- an owned list as a name -/
theorem St.loadOwn {H : Heap} {X N : Addr → Prop} {s : Shared} (S : St c H X N env s σ) {x : Str} {l : List V} (e : σ x = some (.own l)) (hc : (x == ("__classdict__" : Str)) = false) {A : Around} {Q : Value → Shared → Prop} {E : Value → Shared → Prop}
    (h : ∀ a vs m, N a → s.heap.Ns env.locals m → At env m s.heap x (.ref a) → s.heap.PlainList a vs.toArray → RepL c s.heap N vs l → Q (.ref a) s) : wpAny c.M A (loadName env x) Q E s := by
  obtain ⟨m, n, q, _⟩ := S.fr
  obtain ⟨v, av, a, vs, rfl, hN, _, _, _, hp, hr⟩ := q x _ e
  have av' := av
  rcases av with ⟨a1, a2⟩ | ⟨a1 | a1, cl, a2, a3⟩
  · exact wpAny_loadName_local S.kind a1 n a2 (h a vs m hN n av' hp hr)
  · exact wpAny_loadName_cell S.kind a1 a2 a3 (h a vs m hN n av' hp hr)
  · exact wpAny_loadName_free S.kind a1 a2 a3 (h a vs m hN n av' hp hr) hc

theorem ev_len_own {f x : Str} {fp p pos : Pos} {l : List V} {Φ : V → Prop} (hx : σ x = some (.own l)) (hs : l.length ≤ sizeLine) (h : EvE c d env σ (.Name f fp) fun z => z = .raw (.builtin "len") ∧ Φ (.int l.length)) (hd : (x == ("__debug__" : Str)) = false := by decide) (hc : (x == ("__classdict__" : Str)) = false := by decide) :
    EvE c d env σ (.Call (.Name f fp) [.Name x p] [] pos) Φ := .mk fun H X N s S A Q R q => by
  refine wpAny_Call_Name_kw (h.run H X N s S A _ R fun v y h0 tk0 k0 ht0 r0 hy => ?_)
  obtain ⟨rfl, hy⟩ := hy
  have := r0.toRaw; subst this
  have S0 := S.ext k0 ht0
  refine cw_cons (u := .builtin "len") trivial S0.av.ok.K (spliced_more (wpAny_Name (S0.loadOwn hx hc fun a vs m hN n hat hp hr => spliced_none ⟨S0.av.ok.K, ?_⟩) hd)) rfl rfl
  have e1 : sizeLine = 16777216 := by decide
  have e2 : vs.toArray.size = l.length := by simp [hr.length]
  refine len_list (Heap.PlainList.isList hp) (by omega) ?_
  rw [e2]
  exact q _ _ h0 _ k0 (by show 0 ≤ tk0 + 1 + 1; omega) (Rep.int _ _) hy
theorem ev_item_own {x : Str} {p pos : Pos} {i : Expr} {l : List V} {Φ : V → Prop} (hx : σ x = some (.own l)) (hl : l.length ≤ sizeLine) (h : EvE c d env σ i fun z => ∃ (k : Int) (y : V), z = .int k ∧ ((0 ≤ k ∧ l[k.toNat]? = some y) ∨ (k < 0 ∧ -(l.length : Int) ≤ k ∧ l[(k + l.length).toNat]? = some y)) ∧ Φ y)
    (hs : ∀ o i', subscripted i false o i' = operate [o, i'] (getItem o i') := by intro _ _; rfl) (hd : (x == ("__debug__" : Str)) = false := by decide) (hc : (x == ("__classdict__" : Str)) = false := by decide) :
    EvE c d env σ (.Subscript (.Name x p) i pos) Φ := .mk fun H X N s S A Q R q => by
  refine Subscript_ (wpAny_Name (S.loadOwn hx hc fun a vs m hN n hat hp hr => h.run H X N s S A _ R fun u z h2 tk2 k2 ht2 r2 hz => ?_) hd)
  obtain ⟨k, y, rfl, hk, hy⟩ := hz
  obtain ⟨t, rfl⟩ := r2.toInt
  have hp2 : h2.PlainList a vs.toArray := Heap.PlainList.at hp fun o e => k2 _ o e
  have hL := Heap.PlainList.isList hp2
  have e1 : sizeLine = 16777216 := by decide
  refine tail_any (s := { s with heap := h2, toks := tk2 }) hL.typeIs slot_list_getitem.lookup ?_ (hs _ _)
  rcases hk with ⟨h0, e⟩ | ⟨h0, h1, e⟩
  · obtain ⟨w, hw, rw'⟩ := hr.get e
    have hlt : k.toNat < l.length := by
      rcases Nat.lt_or_ge k.toNat l.length with q | q
      · exact q
      · rw [List.getElem?_eq_none q] at e; cases e
    exact wpAny_getItem_list hL h0 (by omega) (by simpa using hw) (q _ _ h2 tk2 k2 ht2 (rw'.ext k2) hy)
  · obtain ⟨w, hw, rw'⟩ := hr.get e
    have hsz : vs.toArray.size = l.length := by simp [hr.length]
    exact wpAny_getItem_list_neg hL h0 (by omega) (by omega) (by rw [hsz]; simpa using hw) (q _ _ h2 tk2 k2 ht2 (rw'.ext k2) hy)
theorem ex_append {x : Str} {p apos cpos pos : Pos} {e : Expr} {l : List V} (hx : σ x = some (.own l)) (hl : l.length ≤ sizeLine) (h : EvE c d env σ e fun y => Φ (.next (σ.set x (.own (l ++ [y])))))
    (hline : (apos.endLine == cpos.line) = true := by rfl) (he : starEach [e] env = (false, eval e env) :: starEach [] env := by rfl) (hi : interactive env = false := by rfl)
    (hfew : ((backTo cpos (starEach [e] env)).all (fun x => !x.1) && (backToKw cpos (keywordEach [] env)).all (fun x => x.1.isSome) && decide ([e].length + ([] : List Keyword).length + (if ([] : List Keyword).isEmpty then 0 else 1) < 30)) = true := by rfl)
    (hd : (x == ("__debug__" : Str)) = false := by decide) (hc : (x == ("__classdict__" : Str)) = false := by decide) :
    Ex1 c d env σ (.Expr (.Call (.Attribute (.Name x p) (Str.ofString "append") apos) [e] [] cpos) pos) Φ := .mk fun H X N s A Q S hF hX R q => by
  refine wpAny_Expr_any ?_ hi rfl
  refine wpAny_Call_method_lateS rfl hfew hline (wpAny_Name (S.loadOwn hx hc fun a vs m hN n hat hp hr => ?_) hd)
  refine ⟨"list", "list.append", F.plainAttrs_list, F.slot_list_append, F.type_list_append, (Heap.PlainList.isList hp).typeIs, (fun a' e' => by cases e'; obtain ⟨nn, e⟩ := hp; exact ⟨_, e, rfl⟩), ?_⟩
  refine cw_cons (u := .builtin "list.append") trivial S.av.ok.K (spliced_more (h.run H X N s S A _ R fun v y h1 tk1 k1 ht1 r1 hy => spliced_none ⟨(S.ext k1 ht1).av.ok.K, ?_⟩) he) he rfl
  have S1 := S.ext k1 ht1
  have hp1 : h1.PlainList a vs.toArray := Heap.PlainList.at hp fun o e => k1 _ o e
  refine wpAny_list_append_plain hp1 (fun h2 hp2 hs2 => ?_) (by rw [List.size_toArray, hr.length]; exact hl)
  have upN : ∀ b o, ¬ N b → h1.get? b = some o → h2.get? b = some o := fun b o nb e => hs2.extBut b o (fun z => nb (z ▸ hN)) e
  refine q .next (.next _) h2 tk1 ht1 ⟨N, S1.ownUpd hx (n.keeps k1) (hat.ext k1) ht1 hs2 (by simpa using hp2) (((hr.ext k1).mono upN fun _ z => z).append (RepL.cons (r1.mono upN fun _ z => z) RepL.nil))⟩ hy
theorem RepL.set {h : Heap} {N : Addr → Prop} : ∀ {vs : List Value} {l : List V} {v : Value} {y : V} (i : Nat), RepL c h N vs l → Rep c h N v y → RepL c h N (vs.set i v) (l.set i y)
  | vs, [], v, y, i, r, rv => by simp only [RepL] at r; subst r; simp; exact RepL.nil
  | vs, x :: l, v, y, i, r, rv => by
    simp only [RepL] at r
    obtain ⟨u, us, rfl, r1, r2⟩ := r
    cases i with
    | zero => exact RepL.cons rv r2
    | succ i => exact RepL.cons r1 (RepL.set i r2 rv)
theorem RepL.erase {h : Heap} {N : Addr → Prop} : ∀ {vs : List Value} {l : List V} (i : Nat), RepL c h N vs l → RepL c h N (vs.eraseIdx i) (l.eraseIdx i)
  | vs, [], i, r => by simp only [RepL] at r; subst r; simp; exact RepL.nil
  | vs, x :: l, i, r => by
    simp only [RepL] at r
    obtain ⟨u, us, rfl, r1, r2⟩ := r
    cases i with
    | zero => exact r2
    | succ i => exact RepL.cons r1 (RepL.erase i r2)
/-- x[i] = value -/
theorem ex_setitem {x : Str} {p ip pos : Pos} {i e : Expr} {l : List V} (hx : σ x = some (.own l)) (hl : l.length ≤ sizeLine)
    (h : EvE c d env σ e fun y => EvE c d env σ i fun z => ∃ k : Int, z = .int k ∧ 0 ≤ k ∧ k < l.length ∧ Φ (.next (σ.set x (.own (l.set k.toNat y)))))
    (hs : swapsWith e (some (.Subscript (.Name x p) i ip)) pos.line env = pure false := by rfl) (hd : (x == ("__debug__" : Str)) = false := by decide) (hc : (x == ("__classdict__" : Str)) = false := by decide) :
    Ex1 c d env σ (.Assign [.Subscript (.Name x p) i ip] e pos) Φ := .mk fun H X N s A Q S hF hX R q => by
  refine wpAny_Assign_Subscript (h.run H X N s S A _ R fun v y h1 tk1 k1 ht1 r1 hy => ?_) hs
  have S1 := S.ext k1 ht1
  refine wpAny_Name (S1.loadOwn hx hc fun a vs m hN n hat hp hr => ?_) hd
  refine hy.run H X N _ S1 A _ R fun u z h2 tk2 k2 ht2 r2 hz => ?_
  obtain ⟨k, rfl, h0, hlt, hΦ⟩ := hz
  obtain ⟨t, rfl⟩ := r2.toInt
  have S2 := S1.ext k2 ht2
  have hp2 : h2.PlainList a vs.toArray := Heap.PlainList.at hp fun o e => k2 _ o e
  have e1 : sizeLine = 16777216 := by decide
  refine setItem_plain hp2 h0 (by omega) (by rw [List.size_toArray, hr.length]; exact hlt) fun h3 hp3 hs3 => ?_
  have upN : ∀ b o, ¬ N b → h2.get? b = some o → h3.get? b = some o := fun b o nb e => hs3.extBut b o (fun z => nb (z ▸ hN)) e
  refine q .next (.next _) h3 tk2 ht2 ⟨N, S2.ownUpd hx (n.keeps k2) (hat.ext k2) ht2 hs3 (vs' := vs.set k.toNat v) (by simpa using hp3) (RepL.set _ ((hr.ext k2).mono upN fun _ z => z) ((r1.ext k2).mono upN fun _ z => z))⟩ hΦ
/-- del x[i] -/
theorem ex_del {x : Str} {p ip pos : Pos} {i : Expr} {l : List V} (hx : σ x = some (.own l)) (hl : l.length ≤ sizeLine)
    (h : EvE c d env σ i fun z => ∃ (k : Int) (j : Nat), z = .int k ∧ Builtin.List.listFitsIndex k = true ∧ seqIndex? k l.length = some j ∧ Φ (.next (σ.set x (.own (l.eraseIdx j)))))
    (hd : (x == ("__debug__" : Str)) = false := by decide) (hc : (x == ("__classdict__" : Str)) = false := by decide) :
    Ex1 c d env σ (.Delete [.Subscript (.Name x p) i ip] pos) Φ := .mk fun H X N s A Q S hF hX R q => by
  refine wpAny_Delete ?_
  show wpAny c.M A (delete (.Subscript (.Name x p) i ip) env >>= fun _ => deleteEach [] env) _ _ s
  refine wpAny_bind (wpAny_delete_Subscript (wpAny_Name (S.loadOwn hx hc fun a vs m hN n hat hp hr => ?_) hd))
  refine h.run H X N _ S A _ R fun u z h2 tk2 k2 ht2 r2 hz => ?_
  obtain ⟨k, j, rfl, hfit, hj, hΦ⟩ := hz
  obtain ⟨t, rfl⟩ := r2.toInt
  have S2 := S.ext k2 ht2
  have hp2 : h2.PlainList a vs.toArray := Heap.PlainList.at hp fun o e => k2 _ o e
  refine wpAny_delItem_plain hp2 hfit (by rw [List.size_toArray, hr.length]; exact hj) (fun h3 hp3 hs3 => ?_) (by rw [List.size_toArray, hr.length]; exact hl)
  have upN : ∀ b o, ¬ N b → h2.get? b = some o → h3.get? b = some o := fun b o nb e => hs3.extBut b o (fun z => nb (z ▸ hN)) e
  refine wpAny_deleteEach_nil (q .next (.next _) h3 tk2 ht2 ⟨N, S2.ownUpd hx (n.keeps k2) (hat.ext k2) ht2 hs3 (vs' := vs.eraseIdx j) ?_ (RepL.erase _ ((hr.ext k2).mono upN fun _ z => z))⟩ hΦ)
  have e2 : vs.toArray.eraseIdxIfInBounds j = (vs.eraseIdx j).toArray := by
    simp
  rw [← e2]; exact hp3
/-- a, b = value -/
theorem ex_assign_tuple {es : List Expr} {k : Nat} {tpos pos : Pos} {e : Expr} (h : EvE c d env σ e fun y => AsT env (.Tuple es k tpos) y σ fun τ => Φ (.next τ))
    (hs : swapsWithSole [.Tuple es k tpos] e pos.line env = pure false := by rfl) (hw : swappedStores [.Tuple es k tpos] e env = pure none := by rfl) : Ex1 c d env σ (.Assign [.Tuple es k tpos] e pos) Φ := .mk fun H X N s A Q S hF hX R q => by
  refine Assign_Tuple (h.run H X N s S A _ R fun v y h1 tk1 k1 ht1 r1 hy => ?_) hs hw
  have S1 := S.ext k1 ht1
  refine AsK.run hy S1 (fun n hn => hn.at hF) R.handled ?_ fun h2 tk2 τ ht2 up2 S2 hΦ => q .next (.next τ) h2 tk2 ht2 ⟨N, S2⟩ hΦ
  obtain ⟨ns, ys, _, rfl, _⟩ := hy
  obtain ⟨a, vs, e, _, hT, rl⟩ := r1.toTup
  exact ⟨ys, rfl, a, vs, e, hT, rl⟩
end
end Mine

namespace Mine
section
variable {c : Cx} {d : Nat} {env : Env} {σ : Store} {Φ : V → Prop}
theorem RepL.toInts {h : Heap} {N : Addr → Prop} : ∀ {vs : List Value} {ns : List Int}, RepL c h N vs (ns.map .int) → IntsAre vs ns
  | vs, [], r => by simp only [List.map_nil, RepL] at r; subst r; exact .nil
  | vs, n :: ns, r => by
    simp only [List.map_cons, RepL] at r
    obtain ⟨v, us, rfl, r1, r2⟩ := r
    obtain ⟨t, rfl⟩ := r1.toInt
    exact .cons n t r2.toInts
theorem op_eql {a b : List Int} (h : Φ (.bool (decide (a = b)))) : Op2 c d (compareOp .Eq) (.list (a.map .int)) (.list (b.map .int)) Φ := fun N s v u av ra rb => by
  obtain ⟨a1, vs, rfl, _, hp, rl⟩ := ra.toList; obtain ⟨a2, us, rfl, _, hp2, rl2⟩ := rb.toList
  exact Mk.now h av.tok fun A Q R q => eq_intsK (Heap.PlainList.isList hp) rl.toInts (Heap.PlainList.isList hp2) rl2.toInts (by have := R.units; omega) (q _ s.heap s.toks (Ext.refl _) (Rep.bool _))
theorem op_nel {a b : List Int} (h : Φ (.bool (!decide (a = b)))) : Op2 c d (compareOp .NotEq) (.list (a.map .int)) (.list (b.map .int)) Φ := fun N s v u av ra rb => by
  obtain ⟨a1, vs, rfl, _, hp, rl⟩ := ra.toList; obtain ⟨a2, us, rfl, _, hp2, rl2⟩ := rb.toList
  exact Mk.now h av.tok fun A Q R q => ne_intsK (Heap.PlainList.isList hp) rl.toInts (Heap.PlainList.isList hp2) rl2.toInts (by have := R.units; omega) (q _ s.heap s.toks (Ext.refl _) (Rep.bool _))
theorem opf_addl {a b : List V} {Ψ : List V → Prop} (hs : a.length + b.length ≤ sizeLine) (h : Ψ (a ++ b)) : OpF2 c d (binaryOp .Add) (.list a) (.list b) Ψ := fun N s v u av ra rb A Q R q => by
  obtain ⟨a1, vs, rfl, _, ⟨n1, hp⟩, rl⟩ := ra.toList; obtain ⟨a2, us, rfl, _, ⟨n2, hp2⟩, rl2⟩ := rb.toList
  refine PySem.P.add_list (n := n1) (n2 := n2) hp hp2 ?_ (by simp [rl.length, rl2.length]; exact hs)
  have := ff_new (c := c) (N := N) (s := s) (Q := Q) (Ψ := Ψ) (vs := vs ++ us) (l := a ++ b) (tk := s.toks) (n := 0) av.tok (rl.append rl2) h q
  simpa using this
theorem foldl_app (vs : List Value) : ∀ (n : Nat) (b : List Value), (List.replicate n vs.toArray).foldl (fun x y => x ++ y) b.toArray = (b ++ (List.replicate n vs).flatten).toArray
  | 0, b => by simp
  | n + 1, b => by
    rw [List.replicate_succ, List.foldl_cons]
    have : b.toArray ++ vs.toArray = (b ++ vs).toArray := by simp
    rw [this, foldl_app vs n (b ++ vs)]
    simp [List.replicate_succ]
theorem RepL.flat {h : Heap} {N : Addr → Prop} {vs : List Value} {l : List V} (r : RepL c h N vs l) : ∀ n, RepL c h N (List.replicate n vs).flatten (List.replicate n l).flatten
  | 0 => RepL.nil
  | n + 1 => by rw [List.replicate_succ, List.replicate_succ, List.flatten_cons, List.flatten_cons]; exact r.append (RepL.flat r n)
theorem opf_mull {a : List V} {x : Int} {Ψ : List V → Prop} (hx : 0 ≤ x) (hs : a.length * x.toNat ≤ 16777216) (hs2 : x ≤ 1000000) (h : Ψ (List.replicate x.toNat a).flatten) : OpF2 c d (binaryOp .Mult) (.list a) (.int x) Ψ := fun N s v u av ra rb A Q R q => by
  obtain ⟨l, vs, rfl, _, ⟨k, hl⟩, rl⟩ := ra.toList; obtain ⟨u, rfl⟩ := rb.toInt
  have e1 : vs.toArray.size = a.length := by simp [rl.length]
  have e2 : (2 : Nat) ^ 24 = 16777216 := by decide
  refine wpAny_binaryOp_repeat_ref (T := "list") (U := "int") (by decide) ⟨_, hl, rfl⟩ (fun s' => typeIs_int s' x u) noFill_list_mul F.fills_int_mul F.slot_int_rmul repeat_list F.slot_int_index.lookup
    (call_meets F.slot_int_rmul (typeIs_int s x u) F.entry_int_rmul (F.args_int_rmul_2 _ _) (int___rmul___int_list x u l vs.toArray k)
      ⟨hl, rfl, ⟨_, hl, rfl⟩, call_meets F.slot_list_mul ⟨_, hl, rfl⟩ F.entry_list_mul (F.args_list_mul_2 _ _)
        (AutoListH.list___mul___list_int_3 l vs.toArray k x u (by simp [Builtin.List.listFitsIndex]; omega) (by rw [e1]; omega) (by rw [e1]; simp [Builtin.List.listTooLong, sizeLine]; omega))
        ⟨hl, ?_⟩⟩)
  have := ff_new (c := c) (N := N) (s := s) (Q := Q) (Ψ := Ψ) (vs := (List.replicate x.toNat vs).flatten) (l := (List.replicate x.toNat a).flatten) (tk := s.toks) (n := 0) av.tok (rl.flat _) h q
  have e3 : (List.replicate (if vs.toArray.isEmpty = true then 0 else x.toNat) vs.toArray).foldl (fun x1 x2 => x1 ++ x2) #[] = ((List.replicate x.toNat vs).flatten).toArray := by
    have f := foldl_app vs x.toNat []
    simp only [List.nil_append] at f
    by_cases hv : vs = []
    · subst hv; simp
    · have : vs.toArray.isEmpty = false := by cases vs with | nil => exact absurd rfl hv | cons a b => rfl
      rw [this]; simpa using f
  show Q _ { s with heap := s.heap.push { cls := .type "list", data := .seq ((List.replicate (if vs.toArray.isEmpty = true then 0 else x.toNat) vs.toArray).foldl (fun x1 x2 => x1 ++ x2) #[]) } }
  rw [e3]; exact this
theorem fn_range1 {n : Int} (h : Φ (.rng 0 n)) : OpL c d (fun vs => call (.type "range") vs) [.int n] Φ := fun N s vs av r => by
  obtain ⟨v, rfl, r1⟩ := r.one
  obtain ⟨t, rfl⟩ := r1.toInt
  refine Mk.now h av.tok fun A Q _ q => call_range_1 (q _ _ _ (Ext.push _ _) ?_)
  rw [Rep]
  exact ⟨_, _, _, _, rfl, av.fresh, Heap.get?_push_size _ rfl⟩
theorem fn_range2 {a b : Int} (h : Φ (.rng a b)) : OpL c d (fun vs => call (.type "range") vs) [.int a, .int b] Φ := fun N s vs av r => by
  obtain ⟨v, u, rfl, r1, r2⟩ := r.two
  obtain ⟨t, rfl⟩ := r1.toInt; obtain ⟨t', rfl⟩ := r2.toInt
  refine Mk.now h av.tok fun A Q _ q => call_range_2 (q _ _ _ (Ext.push _ _) ?_)
  rw [Rep]
  exact ⟨_, _, _, _, rfl, av.fresh, Heap.get?_push_size _ rfl⟩
theorem fn_abs {a : Int} (h : Φ (.int (if a < 0 then -a else a))) : OpL c d (fun vs => call (.builtin "abs") vs) [.int a] Φ := fun N s vs av r => by
  obtain ⟨v, rfl, r1⟩ := r.one
  obtain ⟨t, rfl⟩ := r1.toInt
  exact Mk.now h av.tok fun A Q _ q => call_abs_int fun u tk => q _ s.heap tk (Ext.refl _) (Rep.int _ _)
theorem fn_count {ns : List Int} {k : Int} (h : Φ (.int (ns.count k : Nat))) : OpL c d (fun vs => call (.builtin "list.count") vs) [.list (ns.map .int), .int k] Φ := fun N s vs av r => by
  obtain ⟨v, u, rfl, r1, r2⟩ := r.two
  obtain ⟨a, us, rfl, _, hp, rl⟩ := r1.toList; obtain ⟨t, rfl⟩ := r2.toInt
  exact Mk.now h av.tok fun A Q _ q => count_list_ints (Heap.PlainList.isList hp) rl.toInts (q _ s.heap _ (Ext.refl _) (Rep.int _ _))
theorem preSum_eq : ∀ (ns : List Int), preSum (fun i => ns.getD i 0) ns.length = ns.sum := by
  have : ∀ (ns : List Int) (j : Nat), j ≤ ns.length → preSum (fun i => ns.getD i 0) j = (ns.take j).sum := fun ns j => by
    induction j with
    | zero => intro _; rfl
    | succ j ih =>
      intro hj
      show preSum _ j + ns.getD j 0 = _
      rw [ih (by omega), List.take_add_one, List.getElem?_eq_getElem (by omega), List.sum_append, List.getD_eq_getElem?_getD, List.getElem?_eq_getElem (by omega)]
      simp
  intro ns
  rw [this ns ns.length (Nat.le_refl _), List.take_length]
theorem fn_sum {ns : List Int} (h : Φ (.int ns.sum)) : OpL c d (fun vs => call (.builtin "sum") vs) [.list (ns.map .int)] Φ := fun N s vs av r => by
  obtain ⟨v, rfl, r1⟩ := r.one
  obtain ⟨a, us, rfl, _, hp, rl⟩ := r1.toList
  have hL := Heap.PlainList.isList hp
  have hi := rl.toInts
  have hlt := isList_lt hL
  have hne : a ≠ s.heap.objs.size := Nat.ne_of_lt hlt
  refine Mk.now h av.tok fun A Q R q => ?_
  refine call_sum_walkG (wpAny_pyIter_list hL ?_)
  have W := Walks.list (prog := c.prog) (w := c.w) (A := A.in1) R.handled s.heap.objs.size a hne us.toArray
  have e : us.toArray.size = ns.length := by simp [hi.length]
  rw [e] at W
  refine ⟨_, _, _, ns.length, _, _, fun i => ns.getD i 0, rfl, W, ⟨⟨_, Heap.get?_push_size _ rfl, rfl, rfl⟩, hL.push _⟩, fun b hb => ?_, fun i v hP => ?_, fun h' tk t' hk => ?_⟩
  · show b < (s.heap.push _).objs.size
    rw [Heap.size_push]
    rcases List.mem_cons.mp hb with rfl | hb
    · exact Nat.lt_succ_self _
    · rw [List.mem_singleton.mp hb]; exact Nat.lt_succ_of_lt hlt
  · have hP' : us[i]? = some v := by simpa using hP
    have hil : i < ns.length := by
      rcases Nat.lt_or_ge i us.length with q | q
      · rw [← hi.length]; exact q
      · rw [List.getElem?_eq_none q] at hP'; cases hP'
    obtain ⟨t, e2⟩ := hi.get i ns[i] (List.getElem?_eq_getElem hil)
    rw [hP'] at e2; cases e2
    exact ⟨t, by simp [List.getD_eq_getElem?_getD, hil]⟩
  · rw [preSum_eq]
    refine q _ h' tk (fun b o e => hk b o (fun z => ?_) (Heap.get?_push_of_some _ e)) (Rep.int _ _)
    rw [List.mem_singleton.mp z, fresh_of (Nat.le_refl _)] at e; cases e
end

section
variable {c : Cx} {d : Nat} {env : Env} {σ : Store} {Φ : AF → Prop}
/-- a, b = (x, y): the stores come from behind -/
theorem ex_swap2 {a b : Str} {pa pb tpos pos : Pos} {k : Nat} {e : Expr} (ha : Kept env a) (hb : Kept env b) (h : EvE c d env σ e fun z => ∃ x y, z = .tup [x, y] ∧ Φ (.next ((σ.set b (.val y)).set a (.val x))))
    (hs : swapsWithSole [.Tuple [.Name a pa, .Name b pb] k tpos] e pos.line env = pure false := by rfl) (hw : swappedStores [.Tuple [.Name a pa, .Name b pb] k tpos] e env = pure (some [a, b]) := by rfl) :
    Ex1 c d env σ (.Assign [.Tuple [.Name a pa, .Name b pb] k tpos] e pos) Φ := .mk fun H X N s A Q S hF hX R q => by
  refine Assign_Tuple_swapped (names := [a, b]) (h.run H X N s S A _ R fun v z h1 tk1 k1 ht1 r1 hz => ?_) hs hw
  obtain ⟨x, y, rfl, hΦ⟩ := hz
  obtain ⟨T, vs, rfl, _, hT, rl⟩ := r1.toTup
  obtain ⟨vx, vy, rfl, rx, ry⟩ := rl.two
  have S1 := S.ext k1 ht1
  refine wpAny_unpackItems_tuple (s := { s with heap := h1, toks := tk1 }) (items := #[vx, vy]) R.handled hT fun h2 hx => ?_
  have k2 : Ext h1 h2 := fun b o e => hx b o (Nat.ne_of_lt (Heap.lt_size e)) e
  have S2 := S1.ext (tk := tk1) k2 ht1
  show wpAny c.M A (holding [vx] (bindName env b vy) >>= fun _ => (holding [] (bindName env a vx) >>= fun _ => pure ())) _ _ _
  refine wpAny_bind (wpAny_holding (wpAny_bindName (S2.putVal (hb.at hF) (ry.ext k2) fun h3 tk3 ht3 up3 S3 => ?_)))
  refine wpAny_bind (wpAny_holding (wpAny_bindName (S3.putVal (ha.at hF) ((rx.ext k2).mono up3 fun _ z => z) fun h4 tk4 ht4 up4 S4 => wpAny_pure ?_)))
  exact q .next (.next _) h4 tk4 ht4 ⟨N, S4⟩ hΦ
/-- a = b = c = value -/
theorem ex_assign3 {a b e : Str} {pa pb pe pos : Pos} {v : Expr} (ha : Kept env a) (hb : Kept env b) (he : Kept env e) (h : EvE c d env σ v fun x => Φ (.next (((σ.set a (.val x)).set b (.val x)).set e (.val x)))) :
    Ex1 c d env σ (.Assign [.Name a pa, .Name b pb, .Name e pe] v pos) Φ := .mk fun H X N s A Q S hF hX R q => by
  refine wpAny_Assign_three (h.run H X N s S A _ R fun v x h1 tk1 k1 ht1 r1 hx => ?_)
  have S1 := S.ext k1 ht1
  refine wpAny_assign_Name (S1.putVal (ha.at hF) r1 fun h2 tk2 ht2 up2 S2 => ?_)
  refine wpAny_assign_Name (S2.putVal (hb.at hF) (r1.mono up2 fun _ z => z) fun h3 tk3 ht3 up3 S3 => ?_)
  refine wpAny_assign_Name (S3.putVal (he.at hF) ((r1.mono up2 fun _ z => z).mono up3 fun _ z => z) fun h4 tk4 ht4 up4 S4 => ?_)
  exact q .next (.next _) h4 tk4 ht4 ⟨N, S4⟩ hx
end
end Mine

namespace Mine
section
variable {c : Cx} {d : Nat} {env : Env} {σ : Store} {Φ : V → Prop}
def sliceL (x : List Nat) (lo hi : Option Int) : List Nat := (Txt.slice (S x) lo hi).cps.toList
theorem sl_str {x : List Nat} {lo hi : Option Int} (hs : x.length ≤ sizeLine) (h : Φ (.str (sliceL x lo hi))) : SliceP c d (.str x) lo hi none Φ := fun N s v sl vl vu vs av rv hsl p1 p2 p3 => by
  obtain ⟨t, rfl⟩ := rv.toStr
  refine ⟨⟨"str", _, typeIs_str _ _ _, F.slot_str_getitem.lookup⟩, Mk.now h av.tok fun A Q _ q => ?_⟩
  have hsz : (S x).length ≤ sizeLine := by rw [S_len]; exact hs
  cases p3
  cases p1 <;> cases p2
  · exact wpAny_getItem_str_slice (l := none) (u := none) (st := none) hsl rfl (post_val_or_str ⟨Nat.le_trans (Txt.slice_le (S x) none none) hsz, fun t' k => q _ s.heap k (Ext.refl _) (Rep.str' _ _)⟩)
  · exact wpAny_getItem_str_slice (l := none) (u := some (_, _)) (st := none) hsl rfl (post_val_or_str ⟨Nat.le_trans (Txt.slice_le (S x) none (some _)) hsz, fun t' k => q _ s.heap k (Ext.refl _) (Rep.str' _ _)⟩)
  · exact wpAny_getItem_str_slice (l := some (_, _)) (u := none) (st := none) hsl rfl (post_val_or_str ⟨Nat.le_trans (Txt.slice_le (S x) (some _) none) hsz, fun t' k => q _ s.heap k (Ext.refl _) (Rep.str' _ _)⟩)
  · exact wpAny_getItem_str_slice (l := some (_, _)) (u := some (_, _)) (st := none) hsl rfl (post_val_or_str ⟨Nat.le_trans (Txt.slice_le (S x) (some _) (some _)) hsz, fun t' k => q _ s.heap k (Ext.refl _) (Rep.str' _ _)⟩)
theorem sliceL_ss {x : List Nat} {i j : Nat} (h1 : i ≤ j) (h2 : j ≤ x.length) : sliceL x (some i) (some j) = (x.drop i).take (j - i) := by
  have := slice_closes (x := S x) (i := i) (j := j) ⟨by omega, by omega, by simpa using h2⟩
  unfold sliceL
  rw [eq_of_beq this]
  show (x.drop (i : Int).toNat).take ((j : Int) - i).toNat = _
  rw [show ((j : Int) - i).toNat = j - i by omega]; rfl
theorem sliceL_ns {x : List Nat} {j : Nat} (h2 : j ≤ x.length) : sliceL x none (some j) = x.take j := by
  have := slice_closes_to (x := S x) (j := j) ⟨by omega, by simpa using h2⟩
  unfold sliceL
  rw [eq_of_beq this]
  show (x.drop (0 : Int).toNat).take ((j : Int) - 0).toNat = _
  rw [show ((j : Int) - 0).toNat = j by omega]; rfl
theorem sliceL_sn {x : List Nat} {i : Nat} (h2 : i ≤ x.length) : sliceL x (some i) none = x.drop i := by
  have := slice_closes_fromL (x := S x) (i := i) (b := (S x).length) (by omega) (by rw [S_len]; omega) rfl
  unfold sliceL
  rw [eq_of_beq this]
  show (x.drop (i : Int).toNat).take (((S x).length : Int) - i).toNat = _
  rw [S_len, List.take_of_length_le (by rw [List.length_drop]; omega)]; rfl
theorem fn_tuple {l : List V} (hs : l.length ≤ sizeLine) (h : Φ (.tup l)) : OpL c d (fun vs => call (.type "tuple") vs) [.list l] Φ := fun N s vs av r => by
  obtain ⟨v, rfl, r1⟩ := r.one
  obtain ⟨a, us, rfl, na, hp, rl⟩ := r1.toList
  refine Mk.now h av.tok fun A Q _ q => call_tuple_list (Heap.PlainList.isList hp) (fun h' k => q _ _ s.toks (fun b o e => Heap.get?_push_of_some _ (k b o e)) ?_) (by simp [rl.length]; exact hs)
  rw [Rep]
  refine ⟨_, us, rfl, fun n => ?_, ⟨_, Heap.get?_push_size _ rfl, rfl, _, rfl⟩, rl.ext fun b o e => Heap.get?_push_of_some _ (k b o e)⟩
  obtain ⟨o, e⟩ := av.alive _ n
  exact absurd (Heap.lt_size (k _ _ e)) (Nat.lt_irrefl _)
end
end Mine

namespace Mine
section
variable {c : Cx} {d : Nat} {env : Env} {σ : Store} {Φ : V → Prop}
def attrOk (K : Frag) (C : Addr) (attr : Str) : Bool := plainGet K C attr && hasDictIn K C && (match findIn K (.ref C) attr with | some a => noGet K a | none => false)
def methOk (K : Frag) (C : Addr) (name : Str) (f : Addr) : Bool := plainGet K C name && (findIn K (.ref C) name == some (some (.ref f))) && (typeIn K (.ref f) == some (.type "function"))
theorem Rep.handed {h : Heap} {N : Addr → Prop} {v : Value} {y : V} (r : Rep c h N v y) (hy : ∀ u, y ≠ .raw u) : handedIn v = true := by
  cases y <;> simp only [Rep] at r
  · rw [r]; rfl
  · rw [r]; rfl
  · obtain ⟨t, rfl⟩ := r; rfl
  · obtain ⟨t, rfl⟩ := r; rfl
  · obtain ⟨a, vs, rfl, _⟩ := r; rfl
  · obtain ⟨a, vs, rfl, _⟩ := r; rfl
  · obtain ⟨a, vs, rfl, _⟩ := r; rfl
  · obtain ⟨a, _, _, _, rfl, _⟩ := r; rfl
  · obtain ⟨a, _, _, _, rfl, _⟩ := r; rfl
  · obtain ⟨a, _, rfl, _⟩ := r; rfl
  · exact absurd rfl (hy _)
theorem inst_at {h : Heap} {x dx C : Addr} {es : List DictEntry} {n : Nat} (h1 : h.get? x = some (instObj C dx)) (h2 : h.get? dx = some (dictOf es n)) : PySem.W.InstAt h x (instObj C dx) C (some (dictOf es n)) := ⟨h1, rfl, rfl, h2⟩
/-- an attribute of a finished object -/
theorem ev_attr {value : Expr} {attr : Str} {pos : Pos} (h : EvE c d env σ value fun x => ∃ C names vals, x = .obj C names vals ∧ attrOk c.K C attr = true ∧ ∃ (i : Nat) (y : V), names[i]? = some attr ∧ vals[i]? = some y ∧ (∀ u, y ≠ .raw u) ∧ Φ y)
    (he : eval (.Attribute value attr pos) env = (do
      let o ← eval value env
      standAt pos.atName
      let r ← holding [o] (getAttr o attr true)
      letTemporaryGo value o r
      pure r) := by with_unfolding_all rfl) : EvE c d env σ (.Attribute value attr pos) Φ := .mk fun H X N s S A Q R q => by
  refine Attribute_any_ (h.run H X N s S A _ R fun v x h' tk k ht r hx => ?_) he
  obtain ⟨C, names, vals, rfl, hok, i, y, hn, hv, hraw, hy⟩ := hx
  have S1 := S.ext k ht
  simp only [Rep] at r
  obtain ⟨a, dx, es, n, rfl, na, nd, q1, q2, q5, vs, q3, q4⟩ := r
  obtain ⟨u, hu, ru⟩ := q4.get hv
  unfold attrOk at hok
  simp only [Bool.and_eq_true] at hok
  obtain ⟨⟨o1, o2⟩, o3⟩ := hok
  have hg : getL attr es = some (some u) := by
    have := congrArg (fun l : List (Option (Option Value)) => l[i]?) q3
    simp only [List.getElem?_map, hn, hu, Option.map_some] at this
    simpa using this
  cases hf : findIn c.K (.ref C) attr with
  | none => rw [hf] at o3; cases o3
  | some at0 =>
    rw [hf] at o3
    exact get_value S1.av.ok.K (inst_at q1 q2) (plainGet_of o1).1 (findObj_own o2 hf o3 hg) (ru.handed hraw) (q u y h' (tk + 1) k (by omega) ru hy)
/-- a method of a finished object -/
theorem ev_ometh {o : Expr} {name : Str} {apos pos : Pos} {e : Expr} {rest : List Expr} {f : Addr}
    (h : EvE c d env σ o fun x => (∃ C names vals, x = .obj C names vals ∧ name ∉ names ∧ methOk c.K C name f = true ∧ keepIn c.K (.ref f) = true) ∧ EvL c d env σ (e :: rest) fun xs => OpL c d (fun vs => call (.ref f) vs) (x :: xs) Φ)
    (hbase : attributeBase o name env (eval o env) = eval o env := by rfl) (hline : (apos.endLine == pos.line) = true := by rfl)
    (he : starEach (e :: rest) env = (false, eval e env) :: starEach rest env := by rfl) (hplain : (backTo pos (starEach rest env)).any (·.1) = false := by rfl)
    (hfew : ((backTo pos (starEach (e :: rest) env)).all (fun x => !x.1) && (backToKw pos (keywordEach [] env)).all (fun x => x.1.isSome)
      && decide ((e :: rest).length + ([] : List Keyword).length + (if ([] : List Keyword).isEmpty then 0 else 1) < 30)) = true := by rfl) : EvE c d env σ (.Call (.Attribute o name apos) (e :: rest) [] pos) Φ := .mk fun H X N s S A Q R q => by
  rw [arm_eval_Call, hbase]
  refine wpAny_bind (h.run H X N s S A _ R fun v x h' tk k ht r hx => ?_)
  obtain ⟨⟨C, names, vals, rfl, hnm, hok, hkp⟩, hx⟩ := hx
  have S1 := S.ext k ht
  have r0 := r
  simp only [Rep] at r
  obtain ⟨a, dx, es, n, rfl, na, nd, q1, q2, q5, vs, q3, q4⟩ := r
  unfold methOk at hok
  simp only [Bool.and_eq_true, beq_iff_eq] at hok
  obtain ⟨⟨o1, o2⟩, o3⟩ := hok
  refine wpAny_bind (wpAny_standAt ?_)
  have hform : methodCallForm ((e :: rest).length + ([] : List Keyword).length) (backTo pos (starEach (e :: rest) env)) (backToKw pos (keywordEach [] env)) = true := hfew
  have hpos : methodCallPos true o env apos pos = pure pos := by unfold methodCallPos; simp [hline]
  unfold methodCall
  rw [hform]
  refine wpAny_bind (wpAny_holding (method_fn S1.av.ok.K (inst_at q1 q2) (plainGet_of o1).1 (plainGet_of o1).2 o2 o3 (by show (lookIn name (dictOf es n)).map _ = _; rw [lookIn_dict, q5 name hnm]; rfl) ?_))
  refine wpAny_bind (wpAny_of_eq hpos ?_)
  refine cw_cons (u := .ref f) hkp S1.av.ok.K ?_ he hplain
  refine hx.run H X N _ pos A _ S1 R fun vs xs h2 tk2 k2 ht2 r2 h3 => ?_
  have S2 := S1.ext k2 ht2
  exact ⟨S2.av.ok.K, h3 N _ (_ :: vs) S2.av (RepL.cons (r0.ext k2) r2) A _ R fun v x h4 tk4 k4 ht4 r4 h5 => q v x h4 tk4 (k.trans (k2.trans k4)) ht4 r4 h5⟩
/-- a text that a class keeps -/
theorem ev_clsattr {value : Expr} {attr : Str} {pos : Pos} {C : Addr} {mc : Value} {y : Str} {t : Tok} (hr : readsIn c.K C mc = true) (hf : findCls c.K (.ref C) mc attr = some (.val (.str y t))) (h : EvE c d env σ value fun x => x = .raw (.ref C) ∧ Φ (.str y.cps.toList))
    (he : eval (.Attribute value attr pos) env = (do
      let o ← eval value env
      standAt pos.atName
      let r ← holding [o] (getAttr o attr true)
      letTemporaryGo value o r
      pure r) := by with_unfolding_all rfl) : EvE c d env σ (.Attribute value attr pos) Φ := .mk fun H X N s S A Q R q => by
  refine Attribute_any_ (h.run H X N s S A _ R fun v x h' tk k ht r hx => ?_) he
  obtain ⟨rfl, hx⟩ := hx
  have := r.toRaw; subst this
  have S1 := S.ext k ht
  exact cls_value S1.av.ok.K hr hf rfl (q _ _ h' (tk + 1) k (by omega) (Rep.str' _ _) hx)
end
end Mine

namespace Mine
/-- an attribute is written into the object's own dict: all else is the same -/
theorem set_at {prog : Program} {w : World} {A : Around} {E : Value → Shared → Prop} {s : Shared} {K : Frag} {x dx C : Addr} {es : List DictEntry} {n : Nat} {name : Str} {v : Value} {Q : Unit → Shared → Prop} (X : K.In s.heap) (hx : s.heap.get? x = some (instObj C dx)) (hd : s.heap.get? dx = some (dictOf es n))
    (hs : findIn K (.ref C) "__setattr__" = some (some (.builtin "object.__setattr__"))) (hp : plainOver K C = true) (ht : takerIn K C name = some none) (hh : hasDictIn K C = true) (hl : (getL name es).isSome = true) (hz : es.length + 1 ≤ 1000)
    (h : ∀ h', (∀ b, b ≠ dx → h'.get? b = s.heap.get? b) → h'.get? dx = some (dictOf (putL name (PyData.keyHash w.params name) (.str name (s.toks + 1)) v es) (putN name es n)) → Q () { s with heap := h', toks := s.toks + 2 }) :
    wpAny (model prog w) A (setAttr (.ref x) name v) Q E s := by
  refine set_plain X (inst_at hx hd) hs (osa_open X (s := { s with toks := s.toks + 1 }) (inst_at hx hd) hp ht fun b => ?_)
  obtain ⟨cd, hc, hd'⟩ := any_some hh
  have D' : (s.heap.update dx (Obj.putName name (PyData.keyHash w.params name) (.str name (s.toks + 1)) v)).get? dx = some (dictOf (putL name (PyData.keyHash w.params name) (.str name (s.toks + 1)) v es) (putN name es n)) := by
    rw [← putName_dict]
    exact Heap.get?_update_self _ hd (by rw [putName_dict]; rfl)
  have hlen : ∀ l : List DictEntry, (putL name (PyData.keyHash w.params name) (.str name (s.toks + 1)) v l).length ≤ l.length + 1 := fun l => by
    induction l with
    | nil => simp [putL]
    | cons e l ih => unfold putL; split <;> simp <;> omega
  refine wpAny_bind (wpAny_pure (wpAny_bind (wpAny_bind (wpAny_loadPart hx (wpAny_bind ((looks_clsIn (h := s.heap) X hc).here (s := { s with toks := s.toks + 1 }) ?_))))))
  rw [hd']
  refine wpAny_pure (a := some dx) (wpAny_bind (wpAny_pure (wpAny_bind ?_)))
  unfold nsSet
  refine wpAny_bind (wpAny_bind (wpAny_askSetting (wpAny_pure (wpAny_bind (wpAny_mkText (wpAny_bind (wpAny_loadPart hd ?_)))))))
  have cc : (!es.toArray.any (·.key.isStr name) && es.toArray.any (·.refKey)) = false := by
    rw [← Array.any_toList, ← Array.any_toList]
    unfold getL at hl
    split at hl
    · rename_i en he
      rw [List.any_eq_true.mpr ⟨en, List.mem_of_find?_eq_some he, List.find?_some he⟩]; rfl
    · split at hl
      · cases hl
      · rename_i z; rw [Bool.not_eq_true] at z; rw [z, Bool.and_false]
  dsimp only
  rw [aRefKeyMayBeTheName_at, cc]
  refine wpAny_updatePart hd ?_
  refine wpAny_bind (wpAny_lookBehind D' (pastItsLine_dict (by have := hlen es; rw [List.size_toArray, sizeLine_eq]; omega)) ?_)
  exact wpAny_pure (h _ (fun b hb => Heap.get?_update_ne _ _ _ _ hb) D')
end Mine

namespace Mine
theorem putL_new {name : Str} {hsh : Int} {key v : Value} : ∀ {es : List DictEntry}, es.find? (·.key.isStr name) = none → putL name hsh key v es = es ++ [⟨hsh, key, v⟩]
  | [], _ => rfl
  | e :: es, h => by
    rw [List.find?_cons] at h
    cases q : e.key.isStr name with
    | true => rw [q] at h; cases h
    | false =>
      rw [q] at h
      unfold putL
      rw [if_neg (by rw [q]; exact Bool.false_ne_true), putL_new h]; rfl
theorem getL_none {name : Str} {es : List DictEntry} (h : getL name es = some none) : es.find? (·.key.isStr name) = none ∧ es.any (·.refKey) = false := by
  unfold getL at h
  split at h
  · cases h
  · rename_i q
    refine ⟨q, ?_⟩
    split at h
    · cases h
    · rename_i z; simpa using z
theorem getL_app {name y : Str} {hsh : Int} {t : Tok} {v : Value} {es : List DictEntry} (hr : es.any (·.refKey) = false) : getL y (es ++ [⟨hsh, .str name t, v⟩]) = if es.find? (·.key.isStr y) = none then (if name = y then some (some v) else some none) else getL y es := by
  unfold getL
  rw [List.find?_append]
  cases q : es.find? (·.key.isStr y) with
  | some e => simp
  | none =>
    simp only [Option.none_or, if_true, List.find?_cons, List.find?_nil, List.any_append, hr]
    by_cases e : name = y
    · subst e; simp [Value.isStr]
    · have e2 : (name == y) = false := by simpa using e
      simp [Value.isStr, e2, e, DictEntry.refKey]

/-- a frame with one object that is still being made -/
structure Ob (c : Cx) (H₀ : Heap) (N₀ : Addr → Prop) (C x dx : Addr) (H : Heap) (X N : Addr → Prop) (env : Env) (s : Shared) (σ : Store) (names : List Str) (vals : List V) : Prop where
  st : St c H X N env s σ
  fn : FnE H env
  xl : ∀ b, X b → ∃ o, H.get? b = some o
  ok0 : c.Ok H₀
  ext : Ext H₀ H
  inX : ∀ b, X b ↔ N₀ b ∨ b = x ∨ b = dx
  ne : x ≠ dx
  fx : H₀.get? x = none
  fd : H₀.get? dx = none
  gx : H.get? x = some (instObj C dx)
  gd : ∃ es n vs, H.get? dx = some (dictOf es n) ∧ es.length = names.length ∧ names.map (fun y => getL y es) = vs.map (fun v => some (some v)) ∧ (∀ y, y ∉ names → getL y es = some none) ∧ RepL c H X vs vals
def ExO (c : Cx) (d : Nat) (env : Env) (C x dx : Addr) (σ : Store) (names : List Str) (vals : List V) (t : Sem Flow) (Ψ : Store → List Str → List V → Prop) : Prop :=
  ∀ H₀ N₀ H X N s A (Q : Flow → Shared → Prop), Ob c H₀ N₀ C x dx H X N env s σ names vals → Room d A →
    (∀ τ names' vals' H' N' h' tk, Ob c H₀ N₀ C x dx H' X N' env { s with heap := h', toks := tk } τ names' vals' → Ψ τ names' vals' → Q .next { s with heap := h', toks := tk }) → wpAny c.M A t Q (fun _ _ => False) s
section
variable {c : Cx} {d : Nat} {env : Env} {σ : Store} {C x dx : Addr} {names : List Str} {vals : List V} {Ψ : Store → List Str → List V → Prop}
theorem exo_nil (h : Ψ σ names vals) : ExO c d env C x dx σ names vals (execs [] env) Ψ := fun H₀ N₀ H X N s A Q O R q => wpAny_execs_nil (q σ names vals H N s.heap s.toks O h)
/-- the context with two more known objects -/
def Cx.more (c : Cx) (x dx C : Addr) (es : List DictEntry) (n : Nat) : Cx := { c with K := c.K ++ [(x, instObj C dx), (dx, dictOf es n)] }
end
section
variable {c c' : Cx} {h : Heap} {N : Addr → Prop}
mutual
theorem Rep.cx (e : ∀ D o, TabObj (strKind c.prog c.w) PyData.str D o → TabObj (strKind c'.prog c'.w) PyData.str D o) : ∀ {y : V} {v : Value}, Rep c h N v y → Rep c' h N v y
  | .none, _, r => by simpa only [Rep] using r
  | .bool _, _, r => by simpa only [Rep] using r
  | .int _, _, r => by simpa only [Rep] using r
  | .str _, _, r => by simpa only [Rep] using r
  | .raw _, _, r => by simpa only [Rep] using r
  | .arg _, _, r => by simpa only [Rep] using r
  | .rng _ _, _, r => by simpa only [Rep] using r
  | .sd _, _, r => by
    simp only [Rep] at r ⊢
    obtain ⟨a, o, e1, na, q1, q2⟩ := r
    exact ⟨a, o, e1, na, q1, e _ _ q2⟩
  | .tup l, _, r => by
    simp only [Rep] at r ⊢
    obtain ⟨a, vs, e1, na, q, q2⟩ := r
    exact ⟨a, vs, e1, na, q, RepL.cx e q2⟩
  | .list l, _, r => by
    simp only [Rep] at r ⊢
    obtain ⟨a, vs, e1, na, q, q2⟩ := r
    exact ⟨a, vs, e1, na, q, RepL.cx e q2⟩
  | .obj C names vals, _, r => by
    simp only [Rep] at r ⊢
    obtain ⟨a, dx, es, n, e1, na, nd, q1, q2, q5, vs, q3, q4⟩ := r
    exact ⟨a, dx, es, n, e1, na, nd, q1, q2, q5, vs, q3, RepL.cx e q4⟩
theorem RepL.cx (e : ∀ D o, TabObj (strKind c.prog c.w) PyData.str D o → TabObj (strKind c'.prog c'.w) PyData.str D o) : ∀ {xs : List V} {vs : List Value}, RepL c h N vs xs → RepL c' h N vs xs
  | [], _, r => by simpa only [RepL] using r
  | x :: xs, _, r => by
    simp only [RepL] at r ⊢
    obtain ⟨v, q, e1, r1, r2⟩ := r
    exact ⟨v, q, e1, Rep.cx e r1, RepL.cx e r2⟩
end
theorem St.cx {H : Heap} {X : Addr → Prop} {env : Env} {s : Shared} {σ : Store} (e : ∀ D o, TabObj (strKind c.prog c.w) PyData.str D o → TabObj (strKind c'.prog c'.w) PyData.str D o) (ok : c'.Ok H) (S : St c H X N env s σ) : St c' H X N env s σ := by
  refine ⟨S.tok, ok, S.kH, S.sup, S.nX, S.alive, S.lN, S.lH, S.kind, S.glob, S.blt, S.cells, S.capart, ?_⟩
  obtain ⟨m, n, q, r⟩ := S.fr
  refine ⟨m, n, fun x T hx => ?_, r⟩
  obtain ⟨v, a, b⟩ := q x T hx
  refine ⟨v, a, ?_⟩
  cases T with
  | val y => exact Rep.cx e b
  | own l =>
    obtain ⟨a2, vs, e1, e2, e3, e4, e5, e6, e7⟩ := b
    exact ⟨a2, vs, e1, e2, e3, e4, e5, e6, RepL.cx e e7⟩
end
section
variable {c : Cx} {d : Nat} {env : Env} {σ : Store} {C x dx : Addr} {names : List Str} {vals : List V} {Ψ : Store → List Str → List V → Prop}
theorem Cx.more_ok {H : Heap} {es : List DictEntry} {n : Nat} (ok : c.Ok H) (hx : H.get? x = some (instObj C dx)) (hd : H.get? dx = some (dictOf es n)) : (c.more x dx C es n).Ok H := by
  refine ⟨fun a o e => ?_, ok.T⟩
  have e' : (c.K ++ [(x, instObj C dx), (dx, dictOf es n)]).lookup a = some o := e
  rw [List.lookup_append] at e'
  cases q : c.K.lookup a with
  | some o' => rw [q] at e'; cases e'; exact ok.K _ _ q
  | none =>
    rw [q] at e'
    simp only [Option.none_or, List.lookup_cons, List.lookup_nil] at e'
    split at e'
    · rename_i h1; cases e'; rw [eq_of_beq h1]; exact hx
    · split at e'
      · rename_i h1; cases e'; rw [eq_of_beq h1]; exact hd
      · cases e'
theorem Ob.lost {H₀ H : Heap} {N₀ X N : Addr → Prop} {s : Shared} (O : Ob c H₀ N₀ C x dx H X N env s σ names vals) {b : Addr} (h : H₀.get? b = none) : c.K.lookup b = none := by
  cases e : c.K.lookup b with
  | none => rfl
  | some o => have := O.ok0.K _ _ e; rw [h] at this; cases this
theorem exo_plain0 {st : Stmt} {rest : List Stmt} (h : Ex1 c d env σ st fun a => ∃ τ, a = .next τ ∧ ExO c d env C x dx τ names vals (execs rest env) Ψ) : ExO c d env C x dx σ names vals (execs (st :: rest) env) Ψ := fun H₀ N₀ H X N s A Q O R q => by
  refine wpAny_execs_cons (h.run H X N s A _ O.st O.fn O.xl R fun f a h' tk ht o p => ?_)
  obtain ⟨τ, rfl, hτ⟩ := p
  cases f <;> simp only [FlOk] at o
  obtain ⟨N', S2⟩ := o
  exact hτ H₀ N₀ H X N' _ A _ ⟨S2, O.fn, O.xl, O.ok0, O.ext, O.inX, O.ne, O.fx, O.fd, O.gx, O.gd⟩ R fun τ' nm vl H' N2 h2 tk2 O2 p2 => q τ' nm vl H' N2 h2 tk2 O2 p2
theorem exo_freeze {y : Str} {l : List V} {t : Sem Flow} (e : σ y = some (.own l)) (h : ExO c d env C x dx (σ.set y (.val (.list l))) names vals t Ψ) : ExO c d env C x dx σ names vals t Ψ := fun H₀ N₀ H X N s A Q O R q => by
  obtain ⟨N', S'⟩ := O.st.freeze e O.xl
  exact h H₀ N₀ H X N' s A Q ⟨S', O.fn, O.xl, O.ok0, O.ext, O.inX, O.ne, O.fx, O.fd, O.gx, O.gd⟩ R q
theorem exo_plain {st : Stmt} {rest : List Stmt} (h : ∀ es n vs, c.K.lookup x = none → c.K.lookup dx = none → x ≠ dx → names.map (fun y => getL y es) = vs.map (fun v => some (some v)) → (∃ H X, RepL c H X vs vals) →
    Ex1 (c.more x dx C es n) d env σ st fun a => ∃ τ, a = .next τ ∧ ExO c d env C x dx τ names vals (execs rest env) Ψ) : ExO c d env C x dx σ names vals (execs (st :: rest) env) Ψ := fun H₀ N₀ H X N s A Q O R q => by
  obtain ⟨es, n, vs, g1, g2, g3, g4, g5⟩ := O.gd
  have S' : St (c.more x dx C es n) H X N env s σ := St.cx (c := c) (c' := c.more x dx C es n) (fun _ _ z => z) (Cx.more_ok O.st.ok O.gx g1) O.st
  refine wpAny_execs_cons ((h es n vs (O.lost O.fx) (O.lost O.fd) O.ne g3 ⟨H, X, g5⟩).run H X N s A _ S' O.fn O.xl R fun f a h' tk ht o p => ?_)
  obtain ⟨τ, rfl, hτ⟩ := p
  cases f <;> simp only [FlOk] at o
  obtain ⟨N', S2⟩ := o
  exact hτ H₀ N₀ H X N' _ A _ ⟨St.cx (c := c.more x dx C es n) (c' := c) (fun _ _ z => z) O.st.ok S2, O.fn, O.xl, O.ok0, O.ext, O.inX, O.ne, O.fx, O.fd, O.gx, O.gd⟩ R fun τ' nm vl H' N2 h2 tk2 O2 p2 => q τ' nm vl H' N2 h2 tk2 O2 p2
end
end Mine

namespace Mine
section
variable {c : Cx} {d : Nat} {env : Env} {σ : Store} {C x dx : Addr} {names : List Str} {vals : List V} {Ψ : Store → List Str → List V → Prop}
def setOk (K : Frag) (C : Addr) (attr : Str) : Bool := (findIn K (.ref C) "__setattr__" == some (some (.builtin "object.__setattr__"))) && plainOver K C && (takerIn K C attr == some none) && hasDictIn K C
theorem exo_set {self attr : Str} {p pos' pos : Pos} {e : Expr} {rest : List Stmt} (hself : σ self = some (.val (.raw (.ref x)))) (hattr : attr ∉ names) (hok : setOk c.K C attr = true) (hlen : names.length ≤ 100)
    (h : EvE c d env σ e fun y => ExO c d env C x dx σ (names ++ [attr]) (vals ++ [y]) (execs rest env) Ψ) (hs : swapsWith e (some (.Attribute (.Name self p) attr pos')) pos.line env = pure false := by rfl)
    (hd : (self == ("__debug__" : Str)) = false := by decide) (hc : (self == ("__classdict__" : Str)) = false := by decide) :
    ExO c d env C x dx σ names vals (execs (.Assign [.Attribute (.Name self p) attr pos'] e pos :: rest) env) Ψ := fun H₀ N₀ H X N s A Q O R q => by
  have S := O.st
  refine wpAny_execs_cons (plainObj_wpAny_Assign_Attribute (h.run H X N s S A _ R fun v y h1 tk1 k1 ht1 r1 hy => ?_) hs)
  have S1 := S.ext k1 ht1
  refine (ev_name (c := c) (d := d) (Φ := fun z => z = .raw (.ref x)) (pos := p) hself rfl hd hc).run H X N _ S1 A _ R fun v2 z h2 tk2 k2 ht2 r2 hz => ?_
  subst hz
  have := r2.toRaw; subst this
  have S2 := S1.ext k2 ht2
  obtain ⟨es, n, vs, g1, g2, g3, g4, g5⟩ := O.gd
  unfold setOk at hok
  simp only [Bool.and_eq_true, beq_iff_eq] at hok
  obtain ⟨⟨⟨o1, o2⟩, o3⟩, o4⟩ := hok
  have gn := g4 attr hattr
  have gx := S2.kH _ _ O.gx
  refine set_at S2.av.ok.K gx (S2.kH _ _ g1) o1 o2 o3 o4 (by rw [gn]; rfl) (by omega) fun h3 hb hd3 => ?_
  have Xx : X x := (O.inX x).mpr (.inr (.inl rfl))
  have Xd : X dx := (O.inX dx).mpr (.inr (.inr rfl))
  have h3x : h3.get? x = some (instObj C dx) := by rw [hb x O.ne]; exact gx
  obtain ⟨S3, F3, X3, E3, keep3⟩ := St.turn (wr := [x, dx]) (h₂ := h3) (tk := tk2 + 2) S2 O.fn O.xl O.ok0 O.ext (fun b hb => by rcases List.mem_cons.mp hb with rfl | hb; exact Xx; rw [List.mem_singleton.mp hb]; exact Xd)
    (fun b hb => by rcases List.mem_cons.mp hb with rfl | hb; exact O.fx; rw [List.mem_singleton.mp hb]; exact O.fd) (fun b o nb e => by rw [hb b fun z => nb (by simp [z])]; exact e) (by omega)
    (fun b hb => by rcases List.mem_cons.mp hb with rfl | hb; exact ⟨_, h3x⟩; rw [List.mem_singleton.mp hb]; exact ⟨_, hd3⟩)
  obtain ⟨fn1, fn2⟩ := getL_none gn
  rw [putL_new fn1] at hd3
  refine hy H₀ N₀ _ X N _ A _ ⟨S3, F3, X3, O.ok0, E3, O.inX, O.ne, O.fx, O.fd, ?_, es ++ [⟨PyData.keyHash c.w.params attr, .str attr (tk2 + 1), v⟩], putN attr es n, vs ++ [v], ?_, ?_, ?_, ?_, ?_⟩ R fun τ' nm vl H' N2 h4 tk4 O4 p4 => q τ' nm vl H' N2 h4 tk4 O4 p4
  · rw [keepH_yes (.inr Xx)]; exact h3x
  · rw [keepH_yes (.inr Xd)]; exact hd3
  · simp [g2]
  · have hold : ∀ y ∈ names, getL y (es ++ [⟨PyData.keyHash c.w.params attr, .str attr (tk2 + 1), v⟩]) = getL y es := fun y hy => by
      rw [getL_app fn2]
      split
      · rename_i hf
        have : getL y es = some none := by unfold getL; rw [hf]; simp [fn2]
        rw [this, if_neg (fun (z : attr = y) => hattr (z ▸ hy))]
      · rfl
    rw [List.map_append, List.map_append, ← g3]
    congr 1
    · exact List.map_congr_left hold
    · simp only [List.map_cons, List.map_nil]
      rw [getL_app fn2, if_pos fn1, if_pos rfl]
  · intro y hy
    rw [getL_app fn2]
    have h1 : y ∉ names := fun z => hy (by simp [z])
    have h2 : attr ≠ y := fun z => hy (by simp [z])
    obtain ⟨e1, _⟩ := getL_none (g4 y h1)
    rw [if_pos e1, if_neg h2]
  · refine RepL.append (g5.mono2 fun b o nb e => ⟨nb, keep3 b o (fun z => nb ?_) e⟩) (RepL.cons (r1.mono2 fun b o nb e => ⟨fun z => nb (S.sup b z), ?_⟩) RepL.nil)
    · rcases List.mem_cons.mp z with rfl | z
      · exact Xx
      · rw [List.mem_singleton.mp z]; exact Xd
    · rw [keepH_yes (.inl nb), hb b fun z => nb (z ▸ S.sup _ Xd)]
      exact k2 _ _ e
end
end Mine

namespace Mine
section
variable {c : Cx} {d : Nat}
theorem fn_enter {f : Addr} {fd : FuncData} {oc : Value} {od : Option Addr} {osl : Array (Option Value)} {body : List Stmt} {names : List Str} {args : List V}
    (ho : c.K.lookup f = some ⟨oc, od, .func fd, osl⟩) (hb : fd.body = .stmts body) (hcl : fd.closure = []) (hcd : codeIn c.K fd.code fd.qualname = true)
    (hbind : ∀ vs : List Value, vs.length = names.length → bindArgs fd ⟨vs, []⟩ = pure (names.zip vs)) (hlen : args.length = names.length) (hnd : names.Nodup)
    (hkind : (names.all fun y => fd.scope.names.lookup y == some .local || fd.scope.names.lookup y == some .cell) = true)
    (hg : fd.globals = mainGlobals) (hbl : fd.builtins = builtinsNs) (hco : fd.scope.isCoroutine = false) (hgen : fd.scope.isGenerator = false) (hk : fd.scope.kind = .function)
    {N : Addr → Prop} {s : Shared} {vs : List Value} (av : Av c N s) (rl : RepL c s.heap N vs args) {A : Around} (R : Room (d + 1) A) {RR : Result → Shared → Prop}
    (h : ∀ L h₁ tk N₁, St c s.heap N N₁ (callEnvC fd L f) { s with heap := h₁, toks := tk } (bindS names args) → FnE s.heap (callEnvC fd L f) → Room d (A.deeper (callEnvC fd L f)) →
      wpAny c.M (A.deeper (callEnvC fd L f)) (execs body (callEnvC fd L f)) (fun f s' => RR (.ok (.ret (match f with | .ret v => v | _ => .none))) s') (fun _ _ => False) { s with heap := h₁, toks := tk }) :
    codeAny c.M A (.call (.ref f) ⟨vs, []⟩) RR s := by
  have hvl : vs.length = names.length := rl.length.trans hlen
  refine (codeAny_call_function (by have := R.depth; omega) (av.ok.K _ _ ho) rfl hco hgen hb (codeRec_of av.ok.K hcd) ?_)
  rw [hbind vs hvl, hcl]
  refine wpAny_pure ?_
  have hkind' := kindsX (scope := fd.scope) (binds := names.zip vs) (by
    rw [List.all_eq_true] at hkind ⊢
    intro y hy
    exact hkind y.1 (List.of_mem_zip hy).1) (s.heap.objs.size + 1)
  refine wpAny_mono (wpAny_toks_of av.tok (wpAny_newFunctionEnv_cells (E := fun _ _ => False) (Q := fun env s' => env = callEnvC fd s.heap.objs.size f ∧ InCallC s env.locals (bindL env.kindOf (names.zip vs) fun _ => none) env.cells (bindC env.kindOf (names.zip vs) fun _ => none) s') hk hkind' fun env he s' x => ⟨he, x⟩)) (fun env s' z => ?_) fun _ _ z => z.2.elim
  obtain ⟨htk, rfl, x⟩ := z
  refine ⟨av.ok.T.nolimit.keeps x.toInCall.keep, codeAny_func ?_⟩
  obtain ⟨h₁, tk, rfl, _⟩ := x.done
  have hkH : Ext s.heap h₁ := x.toInCall.keep
  let L := s.heap.objs.size
  let env := callEnvC fd L f
  have hLnone : s.heap.get? L = none := Heap.get?_none_of_le (Nat.le_refl _)
  have above : ∀ n cl, env.cells.lookup n = some cl → L < cl := fun n cl e => x.above n cl (mem_of_lookup e)
  have hS : St c s.heap N (fun a => N a ∨ a = L ∨ ∃ n, env.cells.lookup n = some a) env { s with heap := h₁, toks := tk } (bindS names args) := by
    refine ⟨htk, av.ok, hkH, fun a ha => .inl ha, fun a ha => ha.elim .inl fun ha => .inr (ha.elim (fun z => z ▸ hLnone) fun ⟨n, hn⟩ => Heap.get?_none_of_le (Nat.le_of_lt (above n a hn))), fun a ha => ?_, .inr (.inl rfl), hLnone, hk, hg, hbl, fun y cl e => ⟨.inr (.inr ⟨y, e⟩), Nat.ne_of_gt (above y cl e), _, x.cell y cl e⟩,
      fun y z cl ey ez => name_of_addr x.apart (mem_of_lookup ey) (mem_of_lookup ez), _, x.toInCall.ns, fun y T e => ?_, fun y z ly lz a ey => ?_⟩
    · rcases ha with ha | rfl | ⟨n, ha⟩
      · obtain ⟨o, e⟩ := av.alive a ha; exact ⟨o, hkH _ _ e⟩
      · obtain ⟨o, _, _, e, _⟩ := x.toInCall.ns; exact ⟨o, e⟩
      · obtain ⟨o, e, _⟩ := x.cell n a ha; exact ⟨o, e⟩
    · obtain ⟨v, z, rfl, e1, r⟩ := bindS_some rl e
      refine ⟨v, ?_, Rep.mono2 (fun b o nb e => ⟨fun w => ?_, hkH _ _ e⟩) r⟩
      · have hm : y ∈ names := (List.of_mem_zip (mem_of_lookup e1)).1
        rcases hkind' (y, v) (mem_of_lookup e1) with hl | ⟨hl, hc⟩
        · refine .inl ⟨hl, ?_⟩
          rw [bindL_eq _ names vs _ y hnd, e1]
          have : env.kindOf y = some .local := hl
          simp [env, L] at this ⊢
          simp [this]
        · obtain ⟨cl, hc⟩ := Option.isSome_iff_exists.mp hc
          refine .inr ⟨.inl hl, cl, hc, ?_⟩
          have := x.cell y cl hc
          rw [bindC_eq _ names vs _ y hnd, e1] at this
          have hk2 : env.kindOf y = some .cell := hl
          simp [env, L] at hk2
          simpa [hk2] using this
      · rcases w with w | rfl | ⟨n, w⟩
        · exact nb w
        · rw [hLnone] at e; cases e
        · exact absurd (Heap.lt_size e) (Nat.not_lt.mpr (Nat.le_of_lt (above n b w)))
    · obtain ⟨_, z, e, _⟩ := bindS_some rl ey; cases e
  have hF : FnE s.heap env := fun y cl e => Heap.get?_none_of_le (Nat.le_of_lt (above y cl e))
  exact wpAny_mono (h L h₁ tk _ hS hF R.deeper) (fun _ _ z => z) fun _ _ z => z.elim
end
end Mine

namespace Mine
section
variable {c : Cx} {d : Nat}
theorem tc_weight (C : Addr) (vs : List Value) : (Code.builtin "type.__call__" ⟨.ref C :: vs, []⟩).weight ≤ 1 := by
  have : (Code.builtin "type.__call__" ⟨.ref C :: vs, []⟩).weight = 1 := rfl
  omega
theorem tc_units (C : Addr) (vs : List Value) : (Code.builtin "type.__call__" ⟨.ref C :: vs, []⟩).cUnits ≤ 10 := by
  have : (Code.builtin "type.__call__" ⟨.ref C :: vs, []⟩).cUnits = 1 := rfl
  omega
theorem Room.under {d : Nat} {A : Around} {C : Addr} {vs : List Value} (r : Room (d + 1) A) : Room d (A.under (.builtin "type.__call__" ⟨.ref C :: vs, []⟩)) := by
  have := tc_weight C vs; have := tc_units C vs; have := r.depth; have := r.units
  refine ⟨r.handled, ?_, ?_⟩
  · show A.depth + (Code.builtin "type.__call__" ⟨.ref C :: vs, []⟩).weight + d < _; omega
  · show A.units + (Code.builtin "type.__call__" ⟨.ref C :: vs, []⟩).cUnits + 10 * d + 100 < _; omega
/-- a class is called: its __init__ makes the object -/
theorem fn_class {C f : Addr} {fd : FuncData} {oc : Value} {od : Option Addr} {osl : Array (Option Value)} {body : List Stmt} {names : List Str} {args : List V} {Φ : V → Prop}
    (hm : makesIn c.K C = true) (hi : findIn c.K (.ref C) "__init__" = some (some (.ref f))) (hf : typeIn c.K (.ref f) = some (.type "function"))
    (ho : c.K.lookup f = some ⟨oc, od, .func fd, osl⟩) (hb : fd.body = .stmts body) (hcl : fd.closure = []) (hcd : codeIn c.K fd.code fd.qualname = true)
    (hbind : ∀ vs : List Value, vs.length = names.length → bindArgs fd ⟨vs, []⟩ = pure (names.zip vs)) (hlen : args.length + 1 = names.length) (hnd : names.Nodup)
    (hkind : (names.all fun y => fd.scope.names.lookup y == some .local || fd.scope.names.lookup y == some .cell) = true)
    (hg : fd.globals = mainGlobals) (hbl : fd.builtins = builtinsNs) (hco : fd.scope.isCoroutine = false) (hgen : fd.scope.isGenerator = false) (hk : fd.scope.kind = .function)
    (h : ∀ L x dx, ExO c d (callEnvC fd L f) C x dx (bindS names (.raw (.ref x) :: args)) [] [] (execs body (callEnvC fd L f)) fun τ nm vl => Φ (.obj C nm vl)) : Fn c (d + 2) (.ref C) args Φ := by
  intro N s vs av rl A Q R q
  obtain ⟨hh, g, dd, t, os⟩ := s
  refine wpAny_call (make_core (makes_of av.ok.K hm) (looks_findIn av.ok.K hi) (fun self => bind_fn av.ok.K self hf) (.inl rfl) ?_)
  have k : Ext hh ((hh.push emptyDict).push (instObj C hh.objs.size)) := (Ext.push _ _).trans (Ext.push _ _)
  have gd : ((hh.push emptyDict).push (instObj C hh.objs.size)).get? hh.objs.size = some emptyDict := Heap.get?_push_of_some _ (Heap.get?_push_size _ rfl)
  have gx : ((hh.push emptyDict).push (instObj C hh.objs.size)).get? (hh.objs.size + 1) = some (instObj C hh.objs.size) := by
    have := Heap.get?_push_size (hh.push emptyDict) (o := instObj C hh.objs.size) rfl
    rwa [Heap.size_push] at this
  have fx : hh.get? (hh.objs.size + 1) = none := Heap.get?_none_of_le (Nat.le_succ _)
  have fd' : hh.get? hh.objs.size = none := Heap.get?_none_of_le (Nat.le_refl _)
  have up : ∀ b o, ¬ N b → hh.get? b = some o → ¬ (N b ∨ b = hh.objs.size + 1 ∨ b = hh.objs.size) ∧ ((hh.push emptyDict).push (instObj C hh.objs.size)).get? b = some o := fun b o nb e =>
    ⟨fun z => by { rcases z with z | rfl | rfl; exact nb z; (rw [fx] at e; exact nomatch e); (rw [fd'] at e; exact nomatch e) }, k _ _ e⟩
  have av' : Av c (fun b => N b ∨ b = hh.objs.size + 1 ∨ b = hh.objs.size) ⟨(hh.push emptyDict).push (instObj C hh.objs.size), g, dd, t, os⟩ := ⟨av.ok.keeps k, av.tok, fun a ha => by
    rcases ha with ha | rfl | rfl
    · obtain ⟨o, e⟩ := av.alive a ha; exact ⟨o, k _ _ e⟩
    · exact ⟨_, gx⟩
    · exact ⟨_, gd⟩⟩
  refine fn_enter (c := c) (d := d) (args := .raw (.ref (hh.objs.size + 1)) :: args) ho hb hcl hcd hbind (by simpa using hlen) hnd hkind hg hbl hco hgen hk av' (RepL.cons (by rw [Rep]) (rl.mono2 up)) (Room.under R) fun L h₁ tk N₁ S F R' => ?_
  refine h L _ _ hh N _ _ N₁ _ _ _ ⟨S, F, fun b hb => av'.alive b hb, av.ok, k, fun b => Iff.rfl, Nat.succ_ne_self _, fx, fd', gx, [], 0, [], gd, rfl, rfl, fun y _ => rfl, RepL.nil⟩ R' fun τ nm vl H' N' h' tk' O p => ?_
  refine ⟨rfl, ?_⟩
  obtain ⟨es, n, us, g1, g2, g3, g4, g5⟩ := O.gd
  refine q _ _ h' tk' (fun b o e => O.st.kH _ _ (O.ext _ _ e)) O.st.tok ?_ p
  rw [Rep]
  refine ⟨_, _, es, n, rfl, fun z => ?_, fun z => ?_, O.st.kH _ _ O.gx, O.st.kH _ _ g1, g4, us, g3, g5.mono2 fun b o nb e => ⟨fun z => nb ((O.inX b).mpr (.inl z)), O.st.kH _ _ e⟩⟩
  · obtain ⟨o, e⟩ := av.alive _ z; rw [fx] at e; cases e
  · obtain ⟨o, e⟩ := av.alive _ z; rw [fd'] at e; cases e
end
end Mine

namespace Mine
section
variable {c : Cx} {d : Nat} {env : Env} {σ : Store} {Φ : V → Prop}
/-- a dict of written texts -/
theorem ev_dict {keys : List (Option Expr)} {values : List Expr} {pos : Pos} {D : List (PyData × PyData)} (hD : litPairs keys values = some D) (h : Φ (.sd D)) (hs : strKeyed D = true := by rfl) (hn : (strKeysOf D).Nodup := by decide)
    (hall : keys.all (·.isSome) = true := by rfl) (hl : keys.length = values.length := by rfl) (h0 : keys ≠ [] := by simp) (hlen : keys.length ≤ 15 := by decide) : EvE c d env σ (.Dict keys values pos) Φ := .mk fun H X N s S =>
  Mk.now h S.tok fun A Q _ q => Dict_lits_str hD hs hn hall hl h0 hlen fun a o h₁ tk ha ho hT k => q (.ref a) h₁ tk k (by
    rw [Rep]
    refine ⟨a, o, rfl, fun z => ?_, ho, hT⟩
    obtain ⟨o', e⟩ := S.alive a z
    exact absurd (Heap.lt_size e) (Nat.not_lt.mpr ha))
theorem it_sd {D : List (PyData × PyData)} {k y : List Nat} (hl : Spec.lookup (.str (S k)) D = some (.str (S y))) (h : Φ (.str y)) : ItemP c d (.sd D) (.str k) Φ := fun N s v u av rv ru => by
  simp only [Rep] at rv
  obtain ⟨a, o, rfl, na, ho, kvs, hd, hf⟩ := rv
  obtain ⟨t, rfl⟩ := ru.toStr
  have hm : s.heap.DictOf (strKind c.prog c.w) a kvs := Heap.dictOf_iff.mpr ⟨o, ho, hd⟩
  obtain ⟨v, hv, hfl⟩ := hf.of_lookup PyProof.V.same_str (k := S k) hl
  refine ⟨⟨"dict", _, hm.mapOf.typeIs, slot_dict_getitem.lookup⟩, Mk.now h av.tok fun A Q _ q => ?_⟩
  obtain ⟨t2, rfl⟩ := hfl.str_inv
  exact wpAny_getItem_of (strKind_is c.prog c.w (S k) t) hm.mapOf hv (q _ s.heap _ (Ext.refl _) (Rep.str _ _))
/-- a known object's own attribute that is a text -/
theorem ev_selfattr {self attr : Str} {p pos : Pos} {x dx C : Addr} {es : List DictEntry} {n : Nat} {l : List Nat} {t : Tok} (hself : σ self = some (.val (.raw (.ref x)))) (hx : c.K.lookup x = some (instObj C dx)) (hd : c.K.lookup dx = some (dictOf es n))
    (hg : getL attr es = some (some (.str (S l) t))) (hok : attrOk c.K C attr = true) (h : Φ (.str l))
    (he : eval (.Attribute (.Name self p) attr pos) env = (do
      let o ← eval (.Name self p) env
      standAt pos.atName
      let r ← holding [o] (getAttr o attr true)
      letTemporaryGo (.Name self p) o r
      pure r) := by with_unfolding_all rfl) (hdd : (self == ("__debug__" : Str)) = false := by decide) (hc : (self == ("__classdict__" : Str)) = false := by decide) : EvE c d env σ (.Attribute (.Name self p) attr pos) Φ := .mk fun H X N s S A Q R q => by
  refine Attribute_any_ ((ev_name (c := c) (d := d) (Φ := fun z => z = .raw (.ref x)) (pos := p) hself rfl hdd hc).run H X N s S A _ R fun v z h' tk k ht r hz => ?_) he
  subst hz
  have := r.toRaw; subst this
  have S1 := S.ext k ht
  unfold attrOk at hok
  simp only [Bool.and_eq_true] at hok
  obtain ⟨⟨o1, o2⟩, o3⟩ := hok
  cases hf : findIn c.K (.ref C) attr with
  | none => rw [hf] at o3; cases o3
  | some at0 =>
    rw [hf] at o3
    exact get_value S1.av.ok.K (inst_at (S1.av.ok.K _ _ hx) (S1.av.ok.K _ _ hd)) (plainGet_of o1).1 (findObj_own o2 hf o3 hg) rfl (q _ _ h' (tk + 1) k (by omega) (Rep.str _ _) h)
end
end Mine

namespace Mine
section
variable {c : Cx} {d : Nat} {env : Env} {σ : Store} {Φ : V → Prop}
/-- a method of a list -/
theorem ev_lmeth {o : Expr} {name : Str} {apos pos : Pos} {e : Expr} {rest : List Expr} {id : String} (slot : PySem.Slot "list" name id) (ty : typeOf (.builtin id) = pure (.type "method_descriptor"))
    (h : EvE c d env σ o fun x => (∃ y, x = .list y) ∧ EvL c d env σ (e :: rest) fun xs => OpL c d (fun vs => call (.builtin id) vs) (x :: xs) Φ)
    (hbase : attributeBase o name env (eval o env) = eval o env := by rfl) (hline : (apos.endLine == pos.line) = true := by rfl)
    (he : starEach (e :: rest) env = (false, eval e env) :: starEach rest env := by rfl) (hplain : (backTo pos (starEach rest env)).any (·.1) = false := by rfl)
    (hfew : ((backTo pos (starEach (e :: rest) env)).all (fun x => !x.1) && (backToKw pos (keywordEach [] env)).all (fun x => x.1.isSome)
      && decide ((e :: rest).length + ([] : List Keyword).length + (if ([] : List Keyword).isEmpty then 0 else 1) < 30)) = true := by rfl) : EvE c d env σ (.Call (.Attribute o name apos) (e :: rest) [] pos) Φ := .mk fun H X N s S A Q R q => by
  refine wpAny_Call_method_lateS hbase hfew hline (h.run H X N s S A _ R fun v x h' tk k ht r hx => ?_)
  obtain ⟨⟨y, rfl⟩, hx⟩ := hx
  have r0 := r
  obtain ⟨a, vs, rfl, na, hp, rl⟩ := r.toList
  have S1 := S.ext k ht
  refine ⟨"list", id, F.plainAttrs_list, slot, ty, (Heap.PlainList.isList hp).typeIs, (fun a' e' => by cases e'; obtain ⟨nn, e⟩ := hp; exact ⟨_, e, rfl⟩), ?_⟩
  refine cw_cons (u := .builtin id) trivial S1.av.ok.K ?_ he hplain
  refine hx.run H X N _ pos A _ S1 R fun vs xs h2 tk2 k2 ht2 r2 h3 => ?_
  have S2 := S1.ext k2 ht2
  exact ⟨S2.av.ok.K, h3 N _ (_ :: vs) S2.av (RepL.cons (r0.ext k2) r2) A _ R fun v x h4 tk4 k4 ht4 r4 h5 => q v x h4 tk4 (k.trans (k2.trans k4)) ht4 r4 h5⟩
theorem pickV_sub {l : List V} {lo hi st : Option Int} {y : V} (h : y ∈ pickV l lo hi st) : y ∈ l := by
  unfold pickV at h
  obtain ⟨i, _, e⟩ := List.mem_filterMap.mp h
  exact List.mem_of_getElem? e
theorem pickV_len {l : List V} {lo hi st : Option Int} : (pickV l lo hi st).length ≤ l.length := by
  have h := slicePick_size_le (List.replicate l.length Value.none).toArray lo hi st
  unfold slicePick at h
  unfold pickV
  rw [List.size_toArray, List.size_toArray, List.length_replicate] at h
  refine Nat.le_trans (Nat.le_of_eq ?_) h
  rw [List.length_filterMap_eq_countP, List.length_filterMap_eq_countP]
  congr 1
  funext i
  rcases Nat.lt_or_ge i l.length with q | q
  · simp [q]
  · simp [q]
end
end Mine

namespace Mine
section
variable {c : Cx} {d : Nat} {env : Env} {σ : Store} {Φ : V → Prop}
theorem op_inl {ns : List Int} {k : Int} (h : Φ (.bool (ns.any (· == k)))) : Op2 c d (compareOp .In) (.int k) (.list (ns.map .int)) Φ := fun N s v u av ra rb => by
  obtain ⟨t, rfl⟩ := ra.toInt; obtain ⟨a2, us, rfl, _, hp2, rl2⟩ := rb.toList
  exact Mk.now h av.tok fun A Q R q => in_list_ints (Heap.PlainList.isList hp2) rl2.toInts (q _ s.heap s.toks (Ext.refl _) (Rep.bool _))
theorem op_eqb {a b : Bool} (h : Φ (.bool (a == b))) : Op2 c d (compareOp .Eq) (.bool a) (.bool b) Φ := fun N s v u av ra rb => by
  simp only [Rep] at ra rb; subst ra; subst rb
  exact Mk.now h av.tok fun A Q R q => EqBoolInt.of_rc (SeqAt.RcAt.bool_bool a b) (q _ s.heap s.toks (Ext.refl _) (Rep.bool _))
theorem op_neb {a b : Bool} (h : Φ (.bool (!(a == b)))) : Op2 c d (compareOp .NotEq) (.bool a) (.bool b) Φ := fun N s v u av ra rb => by
  simp only [Rep] at ra rb; subst ra; subst rb
  exact Mk.now h av.tok fun A Q R q => EqBoolInt.of_rcne (SeqAt.RcNeAt.bool_bool a b) (q _ s.heap s.toks (Ext.refl _) (Rep.bool _))
theorem fn_index {x y : List Nat} {i : Nat} (hi : findL x y 0 x.length = some i) (h : Φ (.int (i : Nat))) : OpL c d (fun vs => call (.builtin "str.index") vs) [.str x, .str y] Φ := fun N s vs av r => by
  obtain ⟨v, u, rfl, r1, r2⟩ := r.two
  obtain ⟨t, rfl⟩ := r1.toStr; obtain ⟨t', rfl⟩ := r2.toStr
  have ho : Builtin.Str.occurrences (S x) (S y) 0 (S x).length 1 = i :: [] := by rw [S_len, occ_findL, hi]; rfl
  exact Mk.now h av.tok fun A Q _ q => call_gives F.slot_str_index (typeIs_str _ _ _) F.entry_str_index (F.args_str_index_2 _ _) (gives_str_index (S x) (S y) t t' i [] ho) (q _ s.heap _ (Ext.refl _) (Rep.int _ _))
theorem ints_items {vs : List Value} {ns : List Int} (h : IntsAre vs ns) : ∃ xs : Array (Int × Tok), vs.toArray = intItems xs ∧ xs.toList.map (·.1) = ns := by
  induction h with
  | nil => exact ⟨#[], by simp [intItems], rfl⟩
  | cons n t _ ih =>
    obtain ⟨xs, e1, e2⟩ := ih
    refine ⟨((n, t) :: xs.toList).toArray, ?_, by simp [e2]⟩
    have e3 : _ = (intItems xs).toList := congrArg Array.toList e1
    simp [intItems] at e3 ⊢
    exact e3
theorem fn_min {ns : List Int} (hne : ns ≠ []) (h : ∀ M ∈ ns, (∀ a ∈ ns, M ≤ a) → Φ (.int M)) : OpL c d (fun vs => call (.builtin "min") vs) [.list (ns.map .int)] Φ := fun N s vs av r A Q R q => by
  obtain ⟨v, rfl, r1⟩ := r.one
  obtain ⟨a, us, rfl, _, hp, rl⟩ := r1.toList
  obtain ⟨xs, e1, e2⟩ := ints_items rl.toInts
  have hL := Heap.PlainList.isList hp
  rw [e1] at hL
  have hsz : 0 < xs.size := by
    cases hx : xs.toList with
    | nil => rw [hx] at e2; exact absurd e2.symm hne
    | cons p r => have := congrArg List.length hx; simp at this; omega
  refine min_intList R.handled hL hsz fun v h' tk hv hk => ?_
  obtain ⟨t, rfl⟩ := intItems_at hv
  obtain ⟨h1, h2⟩ := argBest_lt (numAt xs) (xs.size - 1)
  refine q _ (.int _) h' tk (fun b o e => hk b o e) (Nat.zero_le _) (Rep.int _ t) (h _ ?_ fun a ha => ?_)
  · rw [← e2, numAt_eq]; exact getD_mem (by rw [List.length_map, Array.length_toList]; omega)
  · rw [← e2] at ha
    obtain ⟨j, hj, rfl⟩ := mem_getD ha
    rw [List.length_map, Array.length_toList] at hj
    rw [← numAt_eq]; exact h2 j (by omega)
theorem fn_max {ns : List Int} (hne : ns ≠ []) (h : ∀ M ∈ ns, (∀ a ∈ ns, a ≤ M) → Φ (.int M)) : OpL c d (fun vs => call (.builtin "max") vs) [.list (ns.map .int)] Φ := fun N s vs av r A Q R q => by
  obtain ⟨v, rfl, r1⟩ := r.one
  obtain ⟨a, us, rfl, _, hp, rl⟩ := r1.toList
  obtain ⟨xs, e1, e2⟩ := ints_items rl.toInts
  have hL := Heap.PlainList.isList hp
  rw [e1] at hL
  have hsz : 0 < xs.size := by
    cases hx : xs.toList with
    | nil => rw [hx] at e2; exact absurd e2.symm hne
    | cons p r => have := congrArg List.length hx; simp at this; omega
  refine max_intList R.handled hL hsz fun v h' tk hv hk => ?_
  obtain ⟨t, rfl⟩ := intItems_at hv
  obtain ⟨h1, h2⟩ := argBest_gt (numAt xs) (xs.size - 1)
  refine q _ (.int _) h' tk (fun b o e => hk b o e) (Nat.zero_le _) (Rep.int _ t) (h _ ?_ fun a ha => ?_)
  · rw [← e2, numAt_eq]; exact getD_mem (by rw [List.length_map, Array.length_toList]; omega)
  · rw [← e2] at ha
    obtain ⟨j, hj, rfl⟩ := mem_getD ha
    rw [List.length_map, Array.length_toList] at hj
    rw [← numAt_eq]; exact h2 j (by omega)
end
end Mine

namespace Mine
def jn (sep : List Nat) : List (List Nat) → List Nat
  | [] => []
  | [x] => x
  | x :: y :: r => x ++ sep ++ jn sep (y :: r)
theorem joinL_eq (sep : List Nat) : ∀ ts : List (List Nat), joinL sep ts = jn sep ts
  | [] => by unfold joinL Txt.join; rw [StrLaws.glued_eq_join]; rfl
  | [x] => by unfold joinL Txt.join; rw [StrLaws.glued_eq_join]; rfl
  | x :: y :: r => by
    have ih := joinL_eq sep (y :: r)
    unfold joinL Txt.join at ih ⊢; rw [StrLaws.glued_eq_join] at ih ⊢
    show ((S x ++ S sep) ++ Str.join (S sep) ((y :: r).map S)).cps.toList = x ++ sep ++ jn sep (y :: r)
    rw [Str.cps_append, Str.cps_append, Array.toList_append, Array.toList_append, ih]
abbrev dots : List Nat := [46, 46, 46]
theorem at_dot {x : List Nat} {hi k : Nat} (h : StrLaws.At (S x) (S dots) hi k) : x[k]? = some 46 := by
  have := (atL_iff x dots hi k).mp h
  unfold okL atL at this
  simp only [Bool.and_eq_true, beq_iff_eq] at this
  have h2 := this.2
  have : ((x.drop k).take 3)[0]? = some 46 := by rw [show (3 : Nat) = dots.length from rfl, h2]; rfl
  rw [List.getElem?_take_of_lt (by omega), List.getElem?_drop] at this
  simpa using this
theorem at_dots {x : List Nat} {k : Nat} {r : List Nat} (h : x.drop k = dots ++ r) : StrLaws.At (S x) (S dots) (S x).length k := by
  rw [atL_iff]
  unfold okL atL
  rw [h]
  have : (x.drop k).length = 3 + r.length := by rw [h]; simp [dots]; omega
  rw [List.length_drop] at this
  simp [S_len]
  omega
theorem sub_drop {x : List Nat} {a b : Nat} : (Builtin.Str.strSub (S x) a b) = S ((x.drop a).take (b - a)) := by
  have := StrLaws.strSub_toList (S x) a b
  have e := S_toList (Builtin.Str.strSub (S x) a b)
  rw [this] at e
  exact e.symm
theorem parts_jn (x : List Nat) : ∀ (ps : List (List Nat)) (a : Nat) (cuts : List Nat) (f : Nat), ps ≠ [] → (∀ p ∈ ps, 46 ∉ p) → x.drop a = jn dots ps → StrLaws.ChainG (S x) (S dots) (S x).length a cuts f →
    (∀ k, f ≤ k → ¬ StrLaws.At (S x) (S dots) (S x).length k) → StrLaws.partsFrom (S x) (S dots).length a cuts = ps.map S
  | [], a, cuts, f, h, _, _, _, _ => absurd rfl h
  | [p], a, cuts, f, _, hp, hx, hc, hn => by
    have hp := hp p (by simp)
    have hx : x.drop a = p := hx
    cases cuts with
    | nil =>
      show [Builtin.Str.strSub (S x) a (S x).length] = [S p]
      rw [sub_drop, hx, List.take_of_length_le (by rw [← hx, List.length_drop, S_len]; omega)]
    | cons c r =>
      exfalso
      obtain ⟨h1, h2, _⟩ := hc
      have := at_dot h2
      apply hp
      rw [← hx]
      apply List.mem_of_getElem? (i := c - a)
      rw [List.getElem?_drop, show a + (c - a) = c by omega, this]
  | p :: q :: r, a, cuts, f, _, hp, hx, hc, hn => by
    have hp1 := hp p (by simp)
    have hx : x.drop a = p ++ dots ++ jn dots (q :: r) := hx
    have hd : x.drop (a + p.length) = dots ++ jn dots (q :: r) := by rw [← List.drop_drop, hx, List.append_assoc, List.drop_left]
    have hA := at_dots hd
    have hno : ∀ k, a ≤ k → k < a + p.length → ¬ StrLaws.At (S x) (S dots) (S x).length k := fun k h1 h2 h3 => by
      have := at_dot h3
      apply hp1
      apply List.mem_of_getElem? (i := k - a)
      have e : (x.drop a)[k - a]? = some 46 := by rw [List.getElem?_drop, show a + (k - a) = k by omega, this]
      rw [hx, List.append_assoc, List.getElem?_append_left (by omega)] at e
      exact e
    cases cuts with
    | nil =>
      have : f = a := hc
      exact absurd hA (hn _ (by omega))
    | cons cc cs =>
      obtain ⟨h1, h2, h3, h4⟩ := hc
      have ec : cc = a + p.length := by
        rcases Nat.lt_trichotomy cc (a + p.length) with h | h | h
        · exact absurd h2 (hno cc h1 h)
        · exact h
        · exact absurd hA (h3 _ (by omega) h)
      subst ec
      show Builtin.Str.strSub (S x) a (a + p.length) :: StrLaws.partsFrom (S x) (S dots).length (a + p.length + (S dots).length) cs = S p :: (q :: r).map S
      rw [parts_jn x (q :: r) _ cs f (by simp) (fun z hz => hp z (List.mem_cons_of_mem _ hz)) ?_ h4 hn]
      · rw [sub_drop, hx, List.append_assoc, show a + p.length - a = p.length by omega, List.take_left]
      · rw [S_len, ← List.drop_drop, hd, List.drop_left]
theorem jn_len2 (p q : List Nat) (r : List (List Nat)) : 3 ≤ (jn dots (p :: q :: r)).length := by
  show 3 ≤ (p ++ dots ++ jn dots (q :: r)).length
  simp; omega
theorem mapS (ps : List (List Nat)) : (ps.map S).map (fun z => z.cps.toList) = ps := by
  rw [List.map_map]
  exact List.map_id' ps
theorem split_jn {ps : List (List Nat)} (h2 : 2 ≤ ps.length) (hp : ∀ p ∈ ps, 46 ∉ p) : splitL (jn dots ps) dots = ps := by
  obtain ⟨f, h4, hn⟩ := StrLaws.occ_tight (S (jn dots ps)) (S dots) (by decide)
  have key := parts_jn (jn dots ps) ps 0 _ f (by intro e; simp [e] at h2) hp rfl h4 hn
  have hl : 3 ≤ (jn dots ps).length := by
    match ps, h2 with
    | p :: q :: r, _ => exact jn_len2 p q r
  have hk : (decide ((S (jn dots ps)).length < (S dots).length) || decide (Builtin.Str.strKind (S (jn dots ps)) < Builtin.Str.strKind (S dots))) = false := by
    have e1 : Builtin.Str.strKind (S dots) = 1 := by simp [Builtin.Str.strKind]
    have e2 : 1 ≤ Builtin.Str.strKind (S (jn dots ps)) := by unfold Builtin.Str.strKind; split; omega; split <;> omega
    rw [e1, S_len, S_len]
    simp
    omega
  unfold splitL Txt.split
  rw [if_neg (by rw [hk]; exact Bool.false_ne_true)]
  split
  · rename_i he
    rw [List.isEmpty_iff.mp he] at key
    have : [S (jn dots ps)] = ps.map S := by
      rw [← key]
      show _ = [Builtin.Str.strSub (S (jn dots ps)) 0 (S (jn dots ps)).length]
      rw [StrLaws.sub_whole]
    rw [this, mapS]
  · rw [StrLaws.partsBetween_eq, key, mapS]
theorem find_jn {ps : List (List Nat)} (h2 : 2 ≤ ps.length) : (findL (jn dots ps) dots 0 (jn dots ps).length).isSome = true := by
  match ps, h2 with
  | p :: q :: r, _ =>
    cases e : findL (jn dots (p :: q :: r)) dots 0 (jn dots (p :: q :: r)).length with
    | some i => rfl
    | none =>
      have := findL_none_of e p.length (Nat.zero_le _) (by show p.length + 3 ≤ (p ++ dots ++ jn dots (q :: r)).length; simp)
      unfold atL at this
      have e2 : (jn dots (p :: q :: r)).drop p.length = dots ++ jn dots (q :: r) := by show (p ++ dots ++ jn dots (q :: r)).drop _ = _; rw [List.append_assoc, List.drop_left]
      rw [e2] at this
      simp at this

/-! what _ellipsis_match computes -/
def emLoop (got : List Nat) : List (List Nat) → Nat → Nat → Bool
  | [], _, _ => true
  | w :: ws, sp, ep => match findL got w sp ep with
    | none => false
    | some p => emLoop got ws (p + w.length) ep
def emC (got : List Nat) (ws : List (List Nat)) (sp ep : Nat) : Bool := if ep < sp then false else emLoop got ws sp ep
def emE (got : List Nat) (ws : List (List Nat)) (sp : Nat) : Bool :=
  if (ws.getLastD []).length ≠ 0 then (if (decide ((ws.getLastD []).length ≤ got.length) && atL got (ws.getLastD []) (got.length - (ws.getLastD []).length)) = true then emC got ws.dropLast sp (got.length - (ws.getLastD []).length) else false) else emC got ws sp got.length
def emW (got : List Nat) (ws : List (List Nat)) : Bool :=
  if (ws.headD []).length ≠ 0 then (if (decide ((ws.headD []).length ≤ got.length) && atL got (ws.headD []) 0) = true then emE got ws.tail (ws.headD []).length else false) else emE got ws 0
end Mine

namespace Mine
abbrev n (s : String) : Str := Str.ofString s
/-! what Whitespace.__init__ computes -/
structure WS where
  n : Nat
  nt : Nat
  b : Nat
  count : List Nat
def WS.pad (w : WS) : List Nat := if w.count.length ≤ w.b then w.count ++ List.replicate (w.b - w.count.length + 1) 0 else w.count
def WS.tab (w : WS) : WS := ⟨w.n + 1, w.nt + 1, 0, w.pad.set w.b (w.pad.getD w.b 0 + 1)⟩
def WS.blank (w : WS) : WS := ⟨w.n + 1, w.nt, w.b + 1, w.count⟩
def wsRun : List Nat → WS → WS
  | [], w => w
  | ch :: r, w => if ch = 32 then wsRun r w.blank else if ch = 9 then wsRun r w.tab else w
def wsOf (l : List Nat) : WS := wsRun l ⟨0, 0, 0, []⟩
theorem WS.pad_len (w : WS) : w.b < w.pad.length := by
  unfold WS.pad; split
  · simp; omega
  · omega
def natsV (l : List Nat) : List V := l.map fun k => .int (k : Nat)
def wsNames : List Str := [n "raw", n "n", n "nt", n "norm", n "is_simple"]
def wsVals (l : List Nat) (w : WS) : List V := [.str l, .int w.n, .int w.nt, .tup [.tup (natsV w.count), .int w.b], .bool (decide ((w.count.length : Int) ≤ 1))]
def ilv (count : List Nat) (ts : Nat) : Nat := ((List.range' ts (count.length - ts)).map fun i => i / ts * count.getD i 0).sum
def lvl (w : WS) (ts : Nat) : Nat := w.b + ts * (ilv w.count ts + w.nt)
def midS (J : Store → Prop) (Φ : AF → Prop) : AF → Prop
  | .next τ => J τ
  | a => Φ a
theorem ex_mid {c : Cx} {d : Nat} {env : Env} {σ : Store} {Φ : AF → Prop} {st : Stmt} {rest : List Stmt} (J : Store → Prop) (h : Ex1 c d env σ st (midS J Φ)) (h2 : ∀ τ, J τ → ExS c d env τ rest Φ) : ExS c d env σ (st :: rest) Φ :=
  ex_cons (ExM.mono h fun a ha => by cases a <;> first | exact h2 _ ha | exact ha)
theorem mulOkL {a b : Int} (h : a.natAbs < 2 ^ 64) : IntMulOk a b := IntMulOk.of_left (PySem.intBits_le_iff.mpr h)
theorem mulOkR {a b : Int} (h : b.natAbs < 2 ^ 64) : IntMulOk a b := IntMulOk.of_right (PySem.intBits_le_iff.mpr h)
theorem rngL_get {a b : Int} {i : Nat} {y : V} (h : (rngL a b)[i]? = some y) : y = .int (a + (i : Nat)) ∧ (i : Int) < b - a := by
  unfold rngL at h
  rw [List.getElem?_map] at h
  obtain ⟨j, hj, rfl⟩ := Option.map_eq_some_iff.mp h
  obtain ⟨hi, e⟩ := List.getElem?_eq_some_iff.mp hj
  rw [List.getElem_range] at e
  subst e
  rw [List.length_range] at hi
  exact ⟨rfl, by omega⟩
theorem rngL_len {a b : Int} : (rngL a b).length = (b - a).toNat := by simp [rngL]
theorem exo_mid {c : Cx} {d : Nat} {env : Env} {σ : Store} {C x dx : Addr} {names : List Str} {vals : List V} {Ψ : Store → List Str → List V → Prop} {st : Stmt} {rest : List Stmt} (J : Store → Prop)
    (h : ∀ es n vs, c.K.lookup x = none → c.K.lookup dx = none → x ≠ dx → names.map (fun y => getL y es) = vs.map (fun v => some (some v)) → (∃ H X, RepL c H X vs vals) → Ex1 (c.more x dx C es n) d env σ st fun a => ∃ τ, a = .next τ ∧ J τ)
    (h2 : ∀ τ, J τ → ExO c d env C x dx τ names vals (execs rest env) Ψ) : ExO c d env C x dx σ names vals (execs (st :: rest) env) Ψ :=
  exo_plain fun es n vs a b e f g => ExM.mono (h es n vs a b e f g) fun a ⟨τ, e, j⟩ => ⟨τ, e, h2 τ j⟩
end Mine

namespace Mine
section
variable {c : Cx} {d : Nat} {env : Env} {σ : Store}
theorem AsK.mono {K : Str → Prop} {target : Expr} {y : V} {Ψ Ψ' : Store → Prop} (h : AsK K target y σ Ψ) (i : ∀ τ, Ψ τ → Ψ' τ) : AsK K target y σ Ψ' := by
  cases target with
  | Name x p => exact ⟨h.1, i _ h.2⟩
  | Tuple es k p =>
    obtain ⟨ns, ys, h1, h2, h3, h4, h5⟩ := h
    exact ⟨ns, ys, h1, h2, h3, h4, i _ h5⟩
  | _ => exact h.elim
theorem CompOk.map {scope : Scope} {target elt : Expr} {Ψ : List V → Prop} {items : List V} (f : V → V) (hl : items.length ≤ sizeLine)
    (h : ∀ C y, y ∈ items → AsK (fun n => scope.names.lookup n = some .local) target y (compσ scope env σ) fun τ => EvE c d (cEnv scope env C) τ elt (fun z => z = f y)) (h2 : Ψ (items.map f)) :
    CompOk c d env σ scope target [] elt (fun items i acc => acc = (items.take i).map f) Ψ items := by
  refine ⟨hl, rfl, fun C i y acc hy ha => ?_, fun acc ha => ?_⟩
  · refine (h C y (List.mem_of_getElem? hy)).mono fun τ hτ => ?_
    simp only [TestsP, if_true]
    refine hτ.mono fun z hz => ?_
    subst ha hz
    rw [List.take_add_one, hy, List.map_append]; rfl
  · subst ha; rw [List.take_length]; exact h2
/-- with tests -/
theorem CompOk.filter {scope : Scope} {target elt : Expr} {ifs : List Expr} {Ψ : List V → Prop} {items : List V} (p : V → Bool) (f : V → V) (hl : items.length ≤ sizeLine)
    (h : ∀ C y, y ∈ items → AsK (fun n => scope.names.lookup n = some .local) target y (compσ scope env σ) fun τ => TestsP c d (cEnv scope env C) τ ifs fun ok => ok = p y ∧ (ok = true → EvE c d (cEnv scope env C) τ elt (fun z => z = f y))) (h2 : Ψ ((items.filter p).map f)) :
    CompOk c d env σ scope target ifs elt (fun items i acc => acc = ((items.take i).filter p).map f) Ψ items := by
  have tm : ∀ {env : Env} {τ : Store} {ifs : List Expr} {Φ Φ' : Bool → Prop}, TestsP c d env τ ifs Φ → (∀ b, Φ b → Φ' b) → TestsP c d env τ ifs Φ' := by
    intro env τ ifs
    induction ifs with
    | nil => intro Φ Φ' h i; exact i _ h
    | cons t ts ih =>
      intro Φ Φ' h i
      refine .mk fun H X N s S A Q R q => ?_
      refine EvT.run h H X N s S A Q R fun b h' tk a b' c' => q b h' tk a b' ?_
      cases b with
      | true => simp only [if_true] at c' ⊢; exact ih c' i
      | false => simp only [Bool.false_eq_true, if_false] at c' ⊢; exact i _ c'
  refine ⟨hl, rfl, fun C i y acc hy ha => ?_, fun acc ha => ?_⟩
  · refine (h C y (List.mem_of_getElem? hy)).mono fun τ hτ => tm hτ fun b ⟨hb, he⟩ => ?_
    cases b with
    | true =>
      simp only [if_true]
      refine (he rfl).mono fun z hz => ?_
      subst ha hz
      rw [List.take_add_one, hy, List.filter_append, List.map_append]
      simp [← hb]
    | false =>
      simp only [Bool.false_eq_true, if_false]
      subst ha
      rw [List.take_add_one, hy, List.filter_append, List.map_append]
      simp [← hb]
  · subst ha; rw [List.take_length]; exact h2
theorem ev_strL {x : Str} {l : List Nat} {k : Nat} {pos : Pos} {Φ : V → Prop} (hl : x.cps.toList = l) (h : Φ (.str l)) : EvE c d env σ (.Constant (.str x) k pos) Φ := ev_str (hl ▸ h)
theorem ff_splitW {x y : List Nat} {ws : List (List Nat)} {Ψ : List V → Prop} (hw : splitL x y = ws) (hy : y ≠ []) (hs : x.length + 2 ≤ sizeLine) (h : Ψ (ws.map .str)) : OpFL c d (fun vs => call (.builtin "str.split") vs) [.str x, .str y] Ψ := ff_split hy hs (hw ▸ h)
theorem it_at0 {y : V} {l : List V} {Φ : V → Prop} (h : Φ y) (hs : Nat.ble (y :: l).length sizeLine = true := by rfl) : ItemP c d (.list (y :: l)) (.int 0) Φ := it_list (Int.le_refl 0) (Nat.le_of_ble_eq_true hs) rfl h
theorem it_at1 {x y : V} {l : List V} {Φ : V → Prop} (h : Φ y) (hs : Nat.ble (x :: y :: l).length sizeLine = true := by rfl) : ItemP c d (.list (x :: y :: l)) (.int 1) Φ := it_list (by decide) (Nat.le_of_ble_eq_true hs) rfl h
theorem len1 {vs : List Value} (h : vs.length = 1) : ∃ a, vs = [a] := List.length_eq_one_iff.mp h
theorem lenS {k : Nat} {vs : List Value} (h : vs.length = k + 1) : ∃ a r, vs = a :: r ∧ r.length = k := by
  cases vs with
  | nil => cases h
  | cons a r => exact ⟨a, r, rfl, Nat.succ.inj h⟩
theorem len2 {vs : List Value} (h : vs.length = 2) : ∃ a b, vs = [a, b] := by
  obtain ⟨a, r, rfl, h2⟩ := lenS h
  obtain ⟨b, rfl⟩ := len1 h2
  exact ⟨a, b, rfl⟩
theorem len3 {vs : List Value} (h : vs.length = 3) : ∃ a b e, vs = [a, b, e] := by
  obtain ⟨a, r, rfl, h2⟩ := lenS h
  obtain ⟨b, e, rfl⟩ := len2 h2
  exact ⟨a, b, e, rfl⟩
theorem natsV_len (l : List Nat) : (natsV l).length = l.length := List.length_map _
theorem tests_nil {τ : Store} {P Q : Prop} (h : P) : TestsP c d env τ [] (fun ok => if ok = true then P else Q) := by
  simp only [TestsP, if_true]; exact h
theorem sum_nonneg : ∀ {l : List Int}, (∀ x ∈ l, 0 ≤ x) → 0 ≤ l.sum
  | [], _ => by simp
  | x :: l, h => by
    have := sum_nonneg (l := l) fun y hy => h y (List.mem_cons_of_mem _ hy)
    have := h x (by simp)
    simp only [List.sum_cons]; omega
end
end Mine

namespace Mine
/-! the column -/
def gsum (ts : Nat) : List Nat → Nat → Nat
  | [], _ => 0
  | a :: r, k => k / ts * a + gsum ts r (k + 1)
theorem gsum_append (ts : Nat) : ∀ (a b : List Nat) (k : Nat), gsum ts (a ++ b) k = gsum ts a k + gsum ts b (k + a.length)
  | [], b, k => by simp [gsum]
  | x :: a, b, k => by
    simp only [List.cons_append, gsum, gsum_append ts a b (k + 1), List.length_cons]
    rw [show k + 1 + a.length = k + (a.length + 1) by omega]; omega
theorem gsum_zero (ts : Nat) : ∀ (m k : Nat), gsum ts (List.replicate m 0) k = 0
  | 0, k => rfl
  | m + 1, k => by rw [List.replicate_succ, gsum, gsum_zero ts m]; simp
theorem gsum_set (ts : Nat) : ∀ (l : List Nat) (b k : Nat), b < l.length → gsum ts (l.set b (l.getD b 0 + 1)) k = gsum ts l k + (k + b) / ts
  | [], b, k, h => by simp at h
  | x :: l, 0, k, h => by
    simp only [List.set_cons_zero, gsum, List.getD_cons_zero, Nat.add_zero, Nat.mul_add, Nat.mul_one]; omega
  | x :: l, b + 1, k, h => by
    have := gsum_set ts l b (k + 1) (by simpa using h)
    simp only [List.set_cons_succ, gsum, List.getD_cons_succ, this]
    rw [show k + 1 + b = k + (b + 1) by omega]; omega
theorem gsum_range (ts : Nat) : ∀ (l : List Nat) (k : Nat), gsum ts l k = ((List.range' k l.length).map fun i => i / ts * l.getD (i - k) 0).sum
  | [], k => rfl
  | x :: l, k => by
    rw [gsum, gsum_range ts l (k + 1), List.length_cons, List.range'_succ, List.map_cons, List.sum_cons]
    congr 1
    · simp
    · congr 1
      apply List.map_congr_left
      intro i hi
      rw [List.mem_range'_1] at hi
      rw [show i - k = (i - (k + 1)) + 1 by omega, List.getD_cons_succ]
theorem ilv_gsum {ts : Nat} (h1 : 1 ≤ ts) (l : List Nat) : ilv l ts = gsum ts l 0 := by
  rw [gsum_range]
  unfold ilv
  simp only [Nat.sub_zero]
  have z : ∀ m, m ≤ ts → ((List.range' 0 m).map fun i => i / ts * l.getD i 0).sum = 0 := fun m hm => by
    have : (List.range' 0 m).map (fun i => i / ts * l.getD i 0) = (List.range' 0 m).map fun _ => 0 := by
      apply List.map_congr_left
      intro i hi
      rw [List.mem_range'_1] at hi
      rw [Nat.div_eq_of_lt (by omega), Nat.zero_mul]
    rw [this]
    generalize List.range' 0 m = q
    induction q with
    | nil => rfl
    | cons a r ih => simpa using ih
  rcases Nat.le_total l.length ts with q | q
  · rw [z _ q, Nat.sub_eq_zero_of_le q]; rfl
  · have e : List.range' 0 l.length = List.range' 0 ts ++ List.range' ts (l.length - ts) := by
      rw [show l.length = ts + (l.length - ts) by omega, ← List.range'_append]
      simp
    rw [e, List.map_append, List.sum_append, z _ (Nat.le_refl _), Nat.zero_add]
def expand (ts : Nat) : List Nat → Nat → Nat
  | [], k => k
  | ch :: r, k => expand ts r (if ch = 32 then k + 1 else (k / ts + 1) * ts)
theorem expand_append (ts : Nat) : ∀ (a b : List Nat) (k : Nat), expand ts (a ++ b) k = expand ts b (expand ts a k)
  | [], b, k => rfl
  | x :: a, b, k => by rw [List.cons_append, expand, expand_append ts a b]; rfl
theorem expand_blank (ts : Nat) : ∀ (m k : Nat), expand ts (List.replicate m 32) k = k + m
  | 0, k => rfl
  | m + 1, k => by rw [List.replicate_succ, expand, if_pos rfl, expand_blank ts m]; omega
theorem lvl_blank (w : WS) (ts : Nat) : lvl w.blank ts = lvl w ts + 1 := by
  unfold lvl WS.blank; simp only; omega
theorem lvl_tab (w : WS) {ts : Nat} (h1 : 1 ≤ ts) : lvl w.tab ts = (lvl w ts / ts + 1) * ts := by
  have hp : gsum ts w.pad 0 = gsum ts w.count 0 := by
    unfold WS.pad; split
    · rw [gsum_append, gsum_zero]; omega
    · rfl
  unfold lvl WS.tab
  simp only
  rw [ilv_gsum h1, ilv_gsum h1, gsum_set ts _ _ 0 w.pad_len, hp, Nat.add_mul_div_left _ _ (by omega), Nat.zero_add, Nat.zero_add, Nat.mul_comm ts]
  congr 1; omega
theorem lvl_run {ts : Nat} (h1 : 1 ≤ ts) (r : List Nat) : ∀ (l : List Nat) (w : WS), (∀ ch ∈ l, ch = 32 ∨ ch = 9) → lvl (wsRun (l ++ 120 :: r) w) ts = expand ts l (lvl w ts)
  | [], w, _ => by simp [wsRun, expand]
  | ch :: l, w, h => by
    have ih := fun w => lvl_run h1 r l w fun x hx => h x (List.mem_cons_of_mem _ hx)
    rw [List.cons_append, wsRun, expand]
    rcases h ch (by simp) with rfl | rfl
    · rw [if_pos rfl, if_pos rfl, ih, lvl_blank]
    · rw [if_neg (by decide), if_pos rfl, if_neg (by decide), ih, lvl_tab _ h1]
theorem wsRun_len : ∀ (l : List Nat) (w : WS) (m : Nat), w.b ≤ m → w.count.length ≤ m → (wsRun l w).count.length ≤ m + l.length
  | [], w, m, h1, h2 => h2
  | ch :: l, w, m, h1, h2 => by
    rw [wsRun]
    have hl : (ch :: l).length = l.length + 1 := rfl
    split
    · have := wsRun_len l w.blank (m + 1) (by show w.b + 1 ≤ m + 1; omega) (by show w.count.length ≤ m + 1; omega); omega
    · split
      · have := wsRun_len l w.tab (m + 1) (by show 0 ≤ m + 1; omega) (by
          show (w.pad.set w.b _).length ≤ m + 1
          rw [List.length_set]
          unfold WS.pad; split
          · rw [List.length_append, List.length_replicate]; omega
          · omega); omega
      · omega
theorem wsOf_len (l : List Nat) : (wsOf l).count.length ≤ l.length := by
  have := wsRun_len l ⟨0, 0, 0, []⟩ 0 (Nat.le_refl _) (Nat.le_refl _)
  unfold wsOf; omega
theorem lvl_of {ts : Nat} (h1 : 1 ≤ ts) {l : List Nat} (h : ∀ ch ∈ l, ch = 32 ∨ ch = 9) (r : List Nat) : lvl (wsOf (l ++ 120 :: r)) ts = expand ts l 0 := by
  unfold wsOf
  rw [lvl_run h1 r l _ h]
  congr 1
  unfold lvl ilv; simp
end Mine

namespace Mine
/-! the next place of a rest -/
def nx (sz c s : Nat) : Nat := if c % sz < s then c + (s - c % sz) else (c / sz + 1) * sz + s
theorem nx_facts {sz c s : Nat} (hs : s < sz) : c < nx sz c s ∧ nx sz c s ≤ c + sz ∧ nx sz c s % sz = s := by
  have h1 := Nat.div_add_mod c sz
  have h2 := Nat.mod_lt c (show 0 < sz by omega)
  unfold nx
  split
  · refine ⟨by omega, by omega, ?_⟩
    have : c + (s - c % sz) = s + sz * (c / sz) := by omega
    rw [this, Nat.add_mul_mod_self_left, Nat.mod_eq_of_lt hs]
  · rw [Nat.add_mul, Nat.mul_comm]
    refine ⟨by omega, by omega, ?_⟩
    rw [Nat.one_mul, show sz * (c / sz) + sz + s = s + sz + sz * (c / sz) by omega, Nat.add_mul_mod_self_left, Nat.add_mod_right, Nat.mod_eq_of_lt hs]
theorem nx_least {sz c s i : Nat} (hs : s < sz) (h : c < i) (hi : i % sz = s) : nx sz c s ≤ i := by
  obtain ⟨f1, f2, f3⟩ := nx_facts (c := c) hs
  rcases Nat.lt_or_ge i (nx sz c s) with q | q
  · exfalso
    have h1 := Nat.div_add_mod (nx sz c s) sz
    have h2 := Nat.div_add_mod i sz
    rw [f3] at h1
    rw [hi] at h2
    have h3 : i / sz < nx sz c s / sz := by
      rcases Nat.lt_or_ge (i / sz) (nx sz c s / sz) with q' | q'
      · exact q'
      · have := Nat.mul_le_mul_left sz q'; omega
    have h4 : sz * (i / sz + 1) ≤ sz * (nx sz c s / sz) := Nat.mul_le_mul_left sz h3
    rw [Nat.mul_add] at h4
    omega
  · exact q
/-! finding -/
theorem range_num {lo i hi : Nat} (h1 : lo ≤ i) (h2 : i ≤ hi) : hi + 1 - lo = (i - lo) + ((hi - i) + 1) := by
  obtain ⟨x, rfl⟩ := Nat.exists_eq_add_of_le h1
  obtain ⟨y, rfl⟩ := Nat.exists_eq_add_of_le h2
  rw [Nat.add_sub_cancel_left, Nat.add_sub_cancel_left, Nat.add_assoc, Nat.add_assoc, Nat.add_sub_cancel_left]
theorem range_cut {lo i hi : Nat} (h1 : lo ≤ i) (h2 : i ≤ hi) : List.range' lo (hi + 1 - lo) = List.range' lo (i - lo) ++ (i :: List.range' (i + 1) (hi - i)) := by
  rw [range_num h1 h2, ← List.range'_append, List.range'_succ, Nat.mul_comm, Nat.mul_one, Nat.add_sub_cancel' h1]
theorem find_at {x y : List Nat} {lo hi i : Nat} (h1 : lo ≤ i) (h2 : i + y.length ≤ hi) (h3 : atL x y i = true) (h4 : ∀ j, lo ≤ j → j < i → atL x y j = false) : findL x y lo hi = some i := by
  unfold findL
  have e := range_cut h1 (show i ≤ hi by omega)
  rw [e, List.find?_append]
  have hn : (List.range' lo (i - lo)).find? (okL x y hi) = none := by
    rw [List.find?_eq_none]
    intro j hj
    rw [List.mem_range'_1] at hj
    unfold okL
    rw [h4 j hj.1 (by omega)]; simp
  rw [hn, Option.none_or, List.find?_cons]
  have : okL x y hi i = true := by unfold okL; rw [h3]; simp [h2]
  rw [this]
theorem find_no {x y : List Nat} {lo hi : Nat} (h : ∀ j, lo ≤ j → j + y.length ≤ hi → atL x y j = false) : findL x y lo hi = none := by
  unfold findL
  rw [List.find?_eq_none]
  intro j hj
  rw [List.mem_range'_1] at hj
  unfold okL
  by_cases q : j + y.length ≤ hi
  · rw [h j hj.1 q]; simp
  · simp [q]
/-! a row that tells a unit again and again -/
theorem rep_get {T : List Nat} : ∀ {m i : Nat}, i < m * T.length → (repL m T)[i]? = T[i % T.length]?
  | 0, i, h => by simp at h
  | m + 1, i, h => by
    have e : repL (m + 1) T = T ++ repL m T := by simp [repL, List.replicate_succ]
    rw [e]
    rcases Nat.lt_or_ge i T.length with q | q
    · rw [List.getElem?_append_left q, Nat.mod_eq_of_lt q]
    · rw [List.getElem?_append_right q, rep_get (by rw [Nat.add_mul] at h; omega)]
      congr 1
      have : i = (i - T.length) + T.length := by omega
      rw [this, Nat.add_mod_right]; congr 1; omega
theorem rep_len (T : List Nat) (m : Nat) : (repL m T).length = m * T.length := by simp [repL, List.length_flatten]
theorem nodup_get {T : List Nat} (h : T.Nodup) {i j : Nat} (hi : i < T.length) (hj : j < T.length) (e : T[i]? = T[j]?) : i = j := by
  rw [List.getElem?_eq_getElem hi, List.getElem?_eq_getElem hj] at e
  exact (List.getElem_inj h).mp (Option.some.inj e)
/-- a piece of the row lies just at the places of its rest -/
theorem at_piece {T : List Nat} (hT : T.Nodup) {m s f cut i : Nat} (hs : s < T.length) (hf : 1 ≤ f) (hsf : s + f ≤ m * T.length) (hc : cut ≤ m * T.length) (hi : i + f ≤ cut) :
    atL ((repL m T).take cut) (((repL m T).drop s).take f) i = decide (i % T.length = s) := by
  have hl : (((repL m T).drop s).take f).length = f := by rw [List.length_take, List.length_drop, rep_len]; omega
  have hpos : 0 < T.length := by omega
  unfold atL
  rw [hl]
  by_cases e : i % T.length = s
  · rw [decide_eq_true e, beq_iff_eq]
    apply List.ext_getElem?
    intro j
    rcases Nat.lt_or_ge j f with q | q
    · rw [List.getElem?_take_of_lt q, List.getElem?_take_of_lt q, List.getElem?_drop, List.getElem?_drop, List.getElem?_take_of_lt (by omega), rep_get (by omega), rep_get (by omega)]
      congr 1
      rw [← e, Nat.mod_add_mod]
    · rw [List.getElem?_eq_none (by rw [List.length_take]; omega), List.getElem?_eq_none (by rw [List.length_take]; omega)]
  · rw [decide_eq_false e]
    apply Bool.eq_false_iff.mpr
    intro h
    rw [beq_iff_eq] at h
    have h0 := congrArg (fun l : List Nat => l[0]?) h
    simp only [List.getElem?_take_of_lt hf, List.getElem?_drop, Nat.add_zero] at h0
    rw [List.getElem?_take_of_lt (by omega), rep_get (by omega), rep_get (by omega), Nat.mod_eq_of_lt hs] at h0
    exact e (nodup_get hT (Nat.mod_lt _ hpos) hs h0)
end Mine

namespace Mine
/-! a comprehension whose own name is a cell (a comprehension inside it reads it) -/
section
variable {M : Model} {A : Around} {E : Value → Shared → Prop} {s : Shared}
theorem wpAny_compEnv1 {scope : Scope} {globals : Addr} {closure : List (Str × Addr)} {qual : Str} {outer : Env} {x : Str} {Q : Env → Shared → Prop}
    (hcl : ∀ k acc, cellsFrom k scope.names acc = (x, k) :: acc) (hpc : ∀ h, pushCells h scope.names = h.push { cls := .type "cell", data := .cell none })
    (hQ : Q (newEnv scope s.heap.objs.size globals ((x, s.heap.objs.size + 1) :: closure) qual none .none (some outer) builtinsNs) { s with heap := (s.heap.push { cls := .type "dict", data := .dict #[] }).push { cls := .type "cell", data := .cell none } }) :
    wpAny M A (newFunctionEnv scope globals closure [] qual none .none (some outer)) Q E s := by
  simp only [newFunctionEnv, Option.isSome_some, if_true]
  refine wpAny_bind (wpAny_alloc ?_)
  refine wpAny_bind (wpAny_layCells _ (fun name kind cells => by cases kind == NameKind.cell <;> simp) _ _ _ _ ?_)
  rw [hcl, hpc]
  rw [show ({ s with heap := s.heap.push { cls := .type "dict", data := .dict #[] } } : Shared).heap.objs.size = s.heap.objs.size + 1 from Heap.size_push ..]
  rw [List.forIn_nil]
  exact wpAny_bind (wpAny_pure (wpAny_pure hQ))
end

section
variable {c : Cx} {d : Nat} {env : Env} {σ : Store} {H : Heap} {X N : Addr → Prop} {s : Shared}
abbrev cEnv1 (scope : Scope) (env : Env) (x : Str) (C : Addr) : Env := compEnvC scope ((x, C + 1) :: clOf scope.names env) C env
theorem lookup1 {x y : Str} {a b : Addr} {l : List (Str × Addr)} (e : ((x, a) :: l).lookup y = some b) : (y = x ∧ b = a) ∨ (y ≠ x ∧ l.lookup y = some b) := by
  rw [List.lookup_cons] at e
  cases hb : y == x with
  | true => rw [hb] at e; cases e; exact .inl ⟨beq_iff_eq.mp hb, rfl⟩
  | false => rw [hb] at e; exact .inr ⟨beq_eq_false_iff_ne.mp hb, e⟩
theorem relabel_cell {env : Env} : ∀ {names : List (Str × NameKind)} {x : Str}, names.lookup x = some .cell →
    (names.map fun (n, k) => if (k == NameKind.free && env.scope.kind == .function && env.kindOf n == some .cell) then (n, NameKind.cell) else (n, k)).lookup x = some .cell
  | [], _, h => by simp at h
  | (n, k) :: r, x, h => by
    have ih := @relabel_cell env r x
    simp only [List.map_cons]
    rw [List.lookup_cons] at h
    cases hx : x == n with
    | true =>
      rw [hx] at h
      simp at h; subst h
      simp [List.lookup_cons, hx]
    | false =>
      rw [hx] at h
      split
      · simpa [List.lookup_cons, hx] using ih h
      · simpa [List.lookup_cons, hx] using ih h
/-- the state in such a comprehension's frame -/
theorem St.comp1 (S : St c H X N env s σ) {scope : Scope} (hkind : scope.kind = .function) {x : Str} (hx : scope.names.lookup x = some .cell) {h : Heap} {tk : Nat} (k : Ext s.heap h) (ht : 0 ≤ tk) {C : Addr} {new : List Addr} {m : Str → Option Value} (hC : C ∈ new) (hK : C + 1 ∈ new) (fr : ∀ b ∈ new, s.heap.get? b = none) (al : ∀ b ∈ new, ∃ o, h.get? b = some o) (hns : h.Ns C m) (hcell : ∃ v, h.IsCell (C + 1) v) :
    St c (keepH h fun a => a ≠ C ∧ a ≠ C + 1) (fun b => (N b ∨ b ∈ new) ∧ b ≠ C ∧ b ≠ C + 1) (fun b => N b ∨ b ∈ new) (cEnv1 scope env x C) { s with heap := h, toks := tk } (compσ scope env σ) := by
  have S' := S.ext k ht
  have frH : ∀ b ∈ new, H.get? b = none := fun b hb => by
    cases e : H.get? b with
    | none => rfl
    | some o => have := S.kH _ _ e; rw [fr b hb] at this; cases this
  have ext : Ext H (keepH h fun a => a ≠ C ∧ a ≠ C + 1) := fun b o e => by
    exact (keepH_yes (p := fun a => a ≠ C ∧ a ≠ C + 1) (a := b) ⟨fun z => by { rw [z, frH C hC] at e; cases e }, fun z => by { rw [z, frH _ hK] at e; cases e }⟩).trans (S'.kH _ _ e)
  have up : ∀ b o, ¬ N b → s.heap.get? b = some o → ¬ (N b ∨ b ∈ new) ∧ h.get? b = some o := fun b o nb e => ⟨fun z => z.elim nb fun z => by { rw [fr b z] at e; cases e }, k b o e⟩
  have cellNew : ∀ x cl, env.cells.lookup x = some cl → cl ∉ new := fun x cl e z => by
    obtain ⟨_, _, v, o, e', _⟩ := S.cells x cl e
    rw [fr cl z] at e'; cases e'
  have hKC : C + 1 ≠ C := Nat.succ_ne_self C
  refine ⟨ht, S.ok.keeps ext, fun b o e => (keepH_some e).2, fun a ha => ha.1, fun a ha => ?_, fun a ha => ha.elim (S'.alive a) (al a), .inr hC, keepH_no (fun z => z.1 rfl), hkind, S.glob, S.blt, fun y cl e => ?_, fun y z cl ey ez => ?_, m, hns, fun y T e => ?_, fun y z ly lz a ex => ?_⟩
  · by_cases hc : a = C
    · exact .inr (keepH_no fun z => z.1 hc)
    · by_cases hc2 : a = C + 1
      · exact .inr (keepH_no fun z => z.2 hc2)
      · exact .inl ⟨ha, hc, hc2⟩
  · rcases lookup1 e with ⟨rfl, rfl⟩ | ⟨_, e⟩
    · exact ⟨.inr hK, hKC, hcell⟩
    · have e' := clOf_sub e
      obtain ⟨e1, _, v, e3⟩ := S'.cells y cl e'
      exact ⟨.inl e1, fun z => cellNew y cl e' (z ▸ hC), v, e3⟩
  · rcases lookup1 ey with ⟨h1, h2⟩ | ⟨_, ey'⟩
    · rcases lookup1 ez with ⟨h3, h4⟩ | ⟨_, ez'⟩
      · rw [h1, h3]
      · exact absurd (h2 ▸ hK) (cellNew _ _ (clOf_sub ez'))
    · rcases lookup1 ez with ⟨h3, h4⟩ | ⟨_, ez'⟩
      · exact absurd (h4 ▸ hK) (cellNew _ _ (clOf_sub ey'))
      · exact S.capart y z cl (clOf_sub ey') (clOf_sub ez')
  · unfold compσ at e
    split at e
    · rename_i hf
      have hyx : y ≠ x := fun z => by have := hf.1; rw [z, hx] at this; cases this
      cases hσ : σ y with
      | none => rw [hσ] at e; cases e
      | some T' =>
        rw [hσ] at e
        cases T' with
        | own l => cases e
        | val u =>
          cases e
          obtain ⟨m0, n0, q, _⟩ := S.fr
          obtain ⟨v, a, b⟩ := q y _ hσ
          refine ⟨v, ?_, Rep.mono2 up b⟩
          rcases a with ⟨a1, a2⟩ | ⟨a1, cl, a2, a3⟩
          · exact absurd a1 hf.2
          · refine .inr ⟨relabel_free hf.1, cl, ?_, a3.keeps k⟩
            show ((x, C + 1) :: clOf scope.names env).lookup y = some cl
            rw [List.lookup_cons, show (y == x) = false from beq_eq_false_iff_ne.mpr hyx]
            exact clOf_free hf.1 a2
    · cases e
  · exfalso
    unfold compσ at ex
    split at ex
    · split at ex <;> cases ex
    · cases ex

def Kc (scope : Scope) : Str → Prop := fun n => scope.names.lookup n = some .local ∨ scope.names.lookup n = some .cell
def CompOk1 (c : Cx) (d : Nat) (env : Env) (σ : Store) (scope : Scope) (x : Str) (target : Expr) (ifs : List Expr) (elt : Expr) (Inv : List V → Nat → List V → Prop) (Ψ : List V → Prop) (items : List V) : Prop :=
  items.length ≤ sizeLine ∧ Inv items 0 [] ∧ (∀ C i y acc, items[i]? = some y → Inv items i acc → AsK (fun n => scope.names.lookup n = some .local ∨ n = x) target y (compσ scope env σ) fun τ => TestsP c d (cEnv1 scope env x C) τ ifs fun ok =>
    if ok = true then EvE c d (cEnv1 scope env x C) τ elt (fun z => Inv items (i + 1) (acc ++ [z])) else Inv items (i + 1) acc) ∧ ∀ acc, Inv items items.length acc → Ψ acc

theorem comp_core1 {scope : Scope} {target iter elt : Expr} {ifs : List Expr} {pos : Pos} {Inv : List V → Nat → List V → Prop} {Ψ : List V → Prop} {A : Around} {RR : Value → Addr → Result → Shared → Prop} {I : Addr} {items : List V} {h' : Heap} {tk : Nat} {x : Str}
    (S : St c H X N env s σ) (R : Room d A) (k : Ext s.heap h') (ht : 0 ≤ tk) (T : Turns c A target N s h' I items) (ok : CompOk1 c d env σ scope x target ifs elt Inv Ψ items)
    (hx : scope.names.lookup x = some .cell) (hcl : ∀ k acc, cellsFrom k scope.names acc = (x, k) :: acc) (hpc : ∀ h, pushCells h scope.names = h.push { cls := .type "cell", data := .cell none }) (hkind : scope.kind = .function)
    (hRR : ∀ D C h₂ tk₂ us acc m, Ext s.heap h₂ → 0 ≤ tk₂ → s.heap.get? D = none → s.heap.get? C = none → D ≠ C → h₂.Ns C m → h₂.PlainList D us.toArray → RepL c h₂ (fun b => N b ∨ b = D ∨ b = C) us acc → Ψ acc → RR (.ref D) C (.ok .next) { s with heap := h₂, toks := tk₂ }) :
    wpAny c.M A (newList []) (fun acc s₃ => wpAny c.M A (newFunctionEnv scope env.globals (clOf scope.names env) [] env.qual none .none (some env)) (fun cenv s₄ =>
      codeAny c.M A (.compStart (.ListComp elt [⟨target, iter, ifs, 0⟩] scope pos) 0 (.ref I) acc { cenv with scope := relabel scope env }) (RR acc cenv.locals) s₄) (fun _ _ => False) s₃) (fun _ _ => False) { s with heap := h', toks := tk } := by
  obtain ⟨fp, wr, P, Md, StI, src, xs, W, st0, hfr, hfp, hal, rsrc, hit, self⟩ := T
  obtain ⟨hsz, hJ0, hstep, hend⟩ := ok
  refine wpAny_newObj_type (wpAny_compEnv1 hcl hpc ?_)
  dsimp only
  generalize hH2 : h'.push { cls := .type "list", dict := none, data := .seq ([] : List Value).toArray } = H2
  generalize hH3 : H2.push { cls := .type "dict", data := .dict #[] } = H3
  generalize hH1 : H3.push { cls := .type "cell", data := .cell none } = h₁
  have hCs : H2.objs.size = h'.objs.size + 1 := by rw [← hH2, Heap.size_push]
  have hKs : H3.objs.size = H2.objs.size + 1 := by rw [← hH3, Heap.size_push]
  have hDC : h'.objs.size ≠ H2.objs.size := by rw [hCs]; exact Nat.ne_of_lt (Nat.lt_succ_self _)
  have hDK : h'.objs.size ≠ H2.objs.size + 1 := by rw [hCs]; omega
  have hKC : H2.objs.size + 1 ≠ H2.objs.size := Nat.succ_ne_self _
  have old : Ext h' h₁ := fun b o e => hH1 ▸ Heap.get?_push_of_some _ (hH3 ▸ Heap.get?_push_of_some _ (hH2 ▸ Heap.get?_push_of_some _ e))
  have hns₁ : h₁.Ns H2.objs.size fun _ => none := by
    have := (Heap.Ns.new H2 (.type "dict")).keeps (h' := h₁) fun b o e => by rw [hH3] at e; exact hH1 ▸ Heap.get?_push_of_some _ e
    exact this
  have hcell₁ : h₁.IsCell (H2.objs.size + 1) none := by
    rw [← hKs]
    exact ⟨_, hH1 ▸ Heap.get?_push_size _ rfl, rfl⟩
  have hD0 : h'.get? h'.objs.size = none := fresh_of (Nat.le_refl _)
  have hC0 : h'.get? H2.objs.size = none := fresh_of (by rw [hCs]; exact Nat.le_succ _)
  have hK0 : h'.get? (H2.objs.size + 1) = none := fresh_of (by rw [hCs]; omega)
  have hD : s.heap.get? h'.objs.size = none := old_none k hD0
  have hC : s.heap.get? H2.objs.size = none := old_none k hC0
  have hK : s.heap.get? (H2.objs.size + 1) = none := old_none k hK0
  have hacc : h₁.PlainList h'.objs.size ([] : List Value).toArray := ⟨0, hH1 ▸ Heap.get?_push_of_some _ (hH3 ▸ Heap.get?_push_of_some _ (hH2 ▸ Heap.get?_push_size _ rfl))⟩
  have wal : ∀ b ∈ wr, ∃ o, h'.get? b = some o := fun b hb => hal 0 h' st0 b (W.sub b hb)
  have offw : ∀ b, h'.get? b = none → b ∉ wr := fun b hb z => by obtain ⟨o, e⟩ := wal _ z; rw [hb] at e; cases e
  have offf : ∀ b, h'.get? b = none → b ∉ fp := fun b hb z => by obtain ⟨o, e⟩ := hal 0 h' st0 _ z; rw [hb] at e; cases e
  have hDw := offw _ hD0
  have hCw := offw _ hC0
  have hKw := offw _ hK0
  have hfpD := offf _ hD0
  have hfpC := offf _ hC0
  have hfpK := offf _ hK0
  let new : List Addr := H2.objs.size :: (H2.objs.size + 1) :: h'.objs.size :: wr
  have inC : H2.objs.size ∈ new := List.mem_cons_self
  have inK : H2.objs.size + 1 ∈ new := List.mem_cons_of_mem _ List.mem_cons_self
  have inD : h'.objs.size ∈ new := List.mem_cons_of_mem _ (List.mem_cons_of_mem _ List.mem_cons_self)
  have inW : ∀ b ∈ wr, b ∈ new := fun b z => List.mem_cons_of_mem _ (List.mem_cons_of_mem _ (List.mem_cons_of_mem _ z))
  have new4 : ∀ b ∈ new, b = H2.objs.size ∨ b = H2.objs.size + 1 ∨ b = h'.objs.size ∨ b ∈ wr := fun b hb => by
    rcases List.mem_cons.mp hb with z | hb
    · exact .inl z
    · rcases List.mem_cons.mp hb with z | hb
      · exact .inr (.inl z)
      · rcases List.mem_cons.mp hb with z | hb
        · exact .inr (.inr (.inl z))
        · exact .inr (.inr (.inr hb))
  let N₁ : Addr → Prop := fun b => N b ∨ b ∈ new
  have newfr : ∀ b ∈ new, s.heap.get? b = none := fun b hb => by
    rcases new4 b hb with rfl | rfl | rfl | hb
    · exact hC
    · exact hK
    · exact hD
    · exact hfr b hb
  have rsrc₁ : RepL c h₁ N₁ src xs := rsrc.mono2 fun b o nb e => ⟨fun z => z.elim (fun z => nb (.inl z)) fun z => by
      rcases new4 b z with rfl | rfl | rfl | z
      · rw [hC0] at e; cases e
      · rw [hK0] at e; cases e
      · rw [hD0] at e; cases e
      · exact nb (.inr z), old b o e⟩
  let J : Nat → Shared → Prop := fun n s' => ∃ i h₂ tk₂ us acc m, n = items.length + 1 - i ∧ i ≤ items.length ∧ s' = { s with heap := h₂, toks := tk₂ } ∧ Ext s.heap h₂ ∧ 0 ≤ tk₂ ∧ StI i h₂ ∧ h₂.Ns H2.objs.size m ∧ (∃ v, h₂.IsCell (H2.objs.size + 1) v) ∧ h₂.PlainList h'.objs.size us.toArray ∧ RepL c h₂ N₁ us acc ∧ acc.length ≤ i ∧ RepL c h₂ N₁ src xs ∧ Inv items i acc
  have loop : ∀ s₃ : Shared, s₃ = { s with heap := h₁, toks := tk } →
      codeAny c.M A (.compLoop (.ListComp elt [⟨target, iter, ifs, 0⟩] scope pos) 0 (.ref I) (.ref h'.objs.size) (cEnv1 scope env x H2.objs.size)) (RR (.ref h'.objs.size) H2.objs.size) s₃ := by
    rintro s₃ rfl
    refine compLoop_any J ?_ (items.length + 1) ⟨0, h₁, _, [], [], _, rfl, Nat.zero_le _, rfl, k.trans old, ht, W.frame _ _ _ st0 fun b _ o e => old b o e, hns₁, ⟨_, hcell₁⟩, hacc, RepL.nil, Nat.le_refl _, rsrc₁, hJ0⟩
    rintro n s' ⟨i, h₂, tk₂, us, acc, m, rfl, hi, rfl, k₂, ht₂, st₂, ns₂, ⟨cv₂, cell₂⟩, pl₂, ru₂, hal₂, rs₂, hJ⟩
    by_cases hlt : i < items.length
    · refine wpAny_mono (wpAny_toks_of (n := 0) ht₂ (W.item i _ (fun r s₁ => ∃ v h₃ tk₃, r = some v ∧ s₁ = { s with heap := h₃, toks := tk₃ } ∧ Md i v h₃ ∧ ∀ b o, b ∉ wr → h₂.get? b = some o → h₃.get? b = some o) (fun _ _ => False) hlt st₂ fun v h₃ tk₃ hMd hk => ⟨v, h₃, tk₃, rfl, rfl, hMd, hk⟩)) (fun r s₁ z => ?_) fun _ _ z => z.2.elim
      obtain ⟨ht₃, v, h₃, tk₃, rfl, rfl, hMd, hk₃⟩ := z
      refine W.go i v _ _ _ hMd fun h₄ hP st₄ hk₄ => ?_
      have hk : ∀ b o, b ∉ wr → h₂.get? b = some o → h₄.get? b = some o := fun b o nb e => hk₄ b o nb (hk₃ b o nb e)
      have k₄ : Ext s.heap h₄ := fun b o e => hk b o (fun z => by rw [hfr b z] at e; cases e) (k₂ b o e)
      have up₄ : ∀ b o, ¬ N₁ b → h₂.get? b = some o → h₄.get? b = some o := fun b o nb e => hk b o (fun z => nb (.inr (inW b z))) e
      have ns₄ : h₄.Ns H2.objs.size m := ns₂.at' fun o e => hk _ o hCw e
      have cell₄ : h₄.IsCell (H2.objs.size + 1) cv₂ := let ⟨o, ho, hd⟩ := cell₂; ⟨o, hk _ _ hKw ho, hd⟩
      have pl₄ : h₄.PlainList h'.objs.size us.toArray := Heap.PlainList.at pl₂ fun o e => hk _ o hDw e
      have al₄ : ∀ b ∈ new, ∃ o, h₄.get? b = some o := fun b hb => by
        rcases new4 b hb with rfl | rfl | rfl | hb
        · obtain ⟨o, _, _, e, _⟩ := ns₄; exact ⟨o, e⟩
        · obtain ⟨o, e, _⟩ := cell₄; exact ⟨o, e⟩
        · obtain ⟨o, e⟩ := pl₄; exact ⟨_, e⟩
        · exact hal _ _ st₄ b (W.sub b hb)
      have rs₄ : RepL c h₄ N₁ src xs := rs₂.mono up₄ fun _ z => z
      have ru₄ : RepL c h₄ N₁ us acc := ru₂.mono up₄ fun _ z => z
      obtain ⟨y, hy, ir⟩ := hit i v h₄ N₁ hlt hP rs₄
      have S₄ := S.comp1 hkind hx k₄ ht₃ (C := H2.objs.size) (new := new) inC inK newfr al₄ ns₄ ⟨_, cell₄⟩
      refine AsK.run (hstep H2.objs.size i y acc hy hJ) S₄ (fun n hn => ?_) R.handled ir fun h₅ tk₅ τ ht₅ up₅ S₅ hB => ?_
      · rcases hn with hn | rfl
        · exact .inl (lookup_relabel_local hn)
        · refine .inr ⟨relabel_cell hx, H2.objs.size + 1, ?_, keepH_no fun z => z.2 rfl⟩
          show ((n, H2.objs.size + 1) :: clOf scope.names env).lookup n = _
          rw [List.lookup_cons]; simp
      have k₅ : ∀ b o, b ≠ H2.objs.size → b ≠ H2.objs.size + 1 → h₄.get? b = some o → h₅.get? b = some o := fun b o nb nk e => S₅.kH b o ((keepH_yes (p := fun a => a ≠ H2.objs.size ∧ a ≠ H2.objs.size + 1) (a := b) ⟨nb, nk⟩).trans e)
      refine hB.run S₅ R fun okb h₆ tk₆ k₆ ht₆ hok => ?_
      have S₆ := S₅.ext k₆ ht₆
      have k46 : ∀ b o, b ≠ H2.objs.size → b ≠ H2.objs.size + 1 → h₄.get? b = some o → h₆.get? b = some o := fun b o nb nk e => k₆ b o (k₅ b o nb nk e)
      have nN : ∀ b, ¬ N₁ b → b ≠ h'.objs.size ∧ b ≠ H2.objs.size ∧ b ≠ H2.objs.size + 1 := fun b nb => ⟨fun z => nb (.inr (z ▸ inD)), fun z => nb (.inr (z ▸ inC)), fun z => nb (.inr (z ▸ inK))⟩
      have nS : ∀ b o, s.heap.get? b = some o → b ≠ h'.objs.size ∧ b ≠ H2.objs.size ∧ b ≠ H2.objs.size + 1 := fun b o e => ⟨fun z => by { rw [z, hD] at e; cases e }, fun z => by { rw [z, hC] at e; cases e }, fun z => by { rw [z, hK] at e; cases e }⟩
      obtain ⟨cv₆, cell₆⟩ : ∃ v, h₆.IsCell (H2.objs.size + 1) v := (S₆.cells x (H2.objs.size + 1) (by
        show ((x, H2.objs.size + 1) :: clOf scope.names env).lookup x = _
        rw [List.lookup_cons]; simp)).2.2
      have fin : ∀ h₇ tk₇ us' acc', (∀ b o, b ≠ h'.objs.size → h₆.get? b = some o → h₇.get? b = some o) → 0 ≤ tk₇ → h₇.PlainList h'.objs.size us'.toArray → RepL c h₇ N₁ us' acc' → acc'.length ≤ i + 1 → Inv items (i + 1) acc' → ∃ m', m' < items.length + 1 - i ∧ J m' { s with heap := h₇, toks := tk₇ } := fun h₇ tk₇ us' acc' k₇ ht₇ pl₇ ru₇ hl₇ hJ₇ => by
        obtain ⟨m₅, n₅, _, _⟩ := S₆.fr
        refine ⟨items.length + 1 - (i + 1), by omega, i + 1, h₇, tk₇, us', acc', m₅, rfl, hlt, rfl, fun b o e => ?_, ht₇, ?_, n₅.at' fun o e => k₇ _ o (Ne.symm hDC) e, ⟨cv₆, let ⟨o, ho, hd⟩ := cell₆; ⟨o, k₇ _ _ (Ne.symm hDK) ho, hd⟩⟩, pl₇, ru₇, hl₇, ?_, hJ₇⟩
        · obtain ⟨n1, n2, n3⟩ := nS b o e
          exact k₇ b o n1 (k46 b o n2 n3 (k₄ b o e))
        · exact W.frame _ _ _ st₄ fun b hb o e => k₇ b o (fun z => hfpD (z ▸ hb)) (k46 b o (fun z => hfpC (z ▸ hb)) (fun z => hfpK (z ▸ hb)) e)
        · exact rs₄.mono (fun b o nb e => k₇ b o (nN b nb).1 (k46 b o (nN b nb).2.1 (nN b nb).2.2 e)) fun _ z => z
      have pl₆ : h₆.PlainList h'.objs.size us.toArray := Heap.PlainList.at pl₄ fun o e => k46 _ o hDC hDK e
      have ru₆ : RepL c h₆ N₁ us acc := ru₄.mono (fun b o nb e => k46 b o (nN b nb).2.1 (nN b nb).2.2 e) fun _ z => z
      cases okb with
      | false =>
        simp only [Bool.false_eq_true, if_false] at hok ⊢
        exact fin h₆ tk₆ us acc (fun _ _ _ e => e) ht₆ pl₆ ru₆ (Nat.le_succ_of_le hal₂) hok
      | true =>
        simp only [if_true] at hok ⊢
        refine hok.run _ _ _ _ S₆ A _ R fun v' z h₇ tk₇ k₇ ht₇ rz hz => ?_
        have pl₇ : h₇.PlainList h'.objs.size us.toArray := Heap.PlainList.at pl₆ fun o e => k₇ _ o e
        refine wpAny_list_append_plain pl₇ (fun h₈ hp₈ hs₈ => ?_) (by rw [List.size_toArray, ru₂.length]; omega)
        have up₈ : ∀ b o, ¬ N₁ b → h₇.get? b = some o → h₈.get? b = some o := fun b o nb e => hs₈.extBut b o (nN b nb).1 e
        refine fin h₈ tk₇ (us ++ [v']) (acc ++ [z]) (fun b o nb e => hs₈.extBut b o nb (k₇ b o e)) ht₇ (by simpa using hp₈) ((((ru₆.ext k₇).mono up₈ fun _ z => z)).append (RepL.cons (rz.mono up₈ fun _ z => z) RepL.nil)) (by rw [List.length_append, List.length_singleton]; omega) hz
    · have hin : i = items.length := by omega
      subst hin
      refine wpAny_mono (wpAny_toks_of (n := 0) ht₂ (W.done _ (fun r s₁ => ∃ h₃ tk₃, r = none ∧ s₁ = { s with heap := h₃, toks := tk₃ } ∧ ∀ b o, b ∉ wr → h₂.get? b = some o → h₃.get? b = some o) (fun _ _ => False) st₂ fun h₃ tk₃ hk => ⟨h₃, tk₃, rfl, rfl, hk⟩)) (fun r s₁ z => ?_) fun _ _ z => z.2.elim
      obtain ⟨ht₃, h₃, tk₃, rfl, rfl, hk⟩ := z
      refine hRR _ _ h₃ tk₃ us acc m (fun b o e => hk b o (fun z => by rw [hfr b z] at e; cases e) (k₂ b o e)) ht₃ hD hC hDC (ns₂.at' fun o e => hk _ o hCw e) (Heap.PlainList.at pl₂ fun o e => hk _ o hDw e) (ru₂.mono2 fun b o nb e => ⟨fun z => nb ?_, hk b o (fun z => nb (.inr (inW b z))) e⟩) (hend acc hJ)
      rcases z with z | rfl | rfl
      · exact .inl z
      · exact .inr inD
      · exact .inr inC
  exact codeAny_compStart_list (loop _ rfl) (self 0 _ _ _ (W.frame _ _ _ st0 fun b _ o e => old b o e) (loop _ rfl))
end

section
variable {c : Cx} {d : Nat} {env : Env} {σ : Store}
def scopeOk1 (scope : Scope) (env : Env) : Bool := scope.names.all (fun p => p.2 != .free || (env.cells.lookup p.1).isSome) && scope.names.all fun p => p.2 != .local || scope.names.lookup p.1 == some .local
theorem scopeOk1.parts {scope : Scope} {env : Env} (h : scopeOk1 scope env = true) : (scope.names.all fun p => p.2 != .free || (env.cells.lookup p.1).isSome) = true ∧ ∀ x ∈ scope.names, x.2 = .local → scope.names.lookup x.1 = some .local := by
  unfold scopeOk1 at h
  simp only [Bool.and_eq_true] at h
  refine ⟨h.1, fun x hx hl => ?_⟩
  have := List.all_eq_true.mp h.2 x hx
  rw [hl] at this
  simpa using this
theorem ex_assign_comp1 {scope : Scope} {target iter elt : Expr} {ifs : List Expr} {pos py spos : Pos} {y : Str} {Φ : AF → Prop} (x : Str) (Inv : List V → Nat → List V → Prop) (hy : env.kindOf y = some .local)
    (h : EvI c d env σ target iter (CompOk1 c d env σ scope x target ifs elt Inv fun l => Φ (.next (σ.set y (.val (.list l))))))
    (hcl : ∀ k acc, cellsFrom k scope.names acc = (x, k) :: acc := by intro _ _; rfl) (hpc : ∀ h, pushCells h scope.names = h.push { cls := .type "cell", data := .cell none } := by intro _; rfl) (hx : scope.names.lookup x = some .cell := by rfl)
    (hsw : swapsWith (.ListComp elt [⟨target, iter, ifs, 0⟩] scope pos) (some (.Name y py)) spos.line env = pure true := by rfl)
    (hsc : scopeOk1 scope env = true := by rfl) (hkind : scope.kind = .function := by rfl) (hs : ∀ x, foldedSetIterable iter env x = pure x := by intro _; rfl) :
    Ex1 c d env σ (.Assign [.Name y py] (.ListComp elt [⟨target, iter, ifs, 0⟩] scope pos) spos) Φ := .mk fun H X N s A Q S hF hX R q => by
  obtain ⟨h1, h3⟩ := scopeOk1.parts hsc
  rw [exec_Assign_Name_used _ _ _ _ hsw]
  refine wpAny_bind (wpAny_standAt (wpAny_bind ?_))
  show wpAny _ A (do let _ ← comprehension (.ListComp elt [⟨target, iter, ifs, 0⟩] scope pos) scope env _ (newList []) false (eval iter env) (some (assign (.Name y py) env))) _ _ s
  refine wpAny_bind (wpAny_mono (wpAny_comprehension_free (use := some (assign (.Name y py) env)) (Q := fun _ s' => Q .next s') (E := fun _ _ => False) rfl hs (closure_of h1) hkind h3 (h.run H X N s A _ S R fun I items h' tk k ht T ok => ?_)) (fun _ s' hq => wpAny_pure (wpAny_pure hq)) fun _ _ e => e)
  refine comp_core1 (RR := fun acc C => compPost c.M A (fun _ _ => False) (some (assign (.Name y py) env)) (fun _ s' => Q .next s') acc C) S R k ht T ok hx hcl hpc hkind fun D C h₂ tk₂ us acc m k₂ ht₂ hD hC hDC hns hp hr hψ => ?_
  show wpAny _ A (assign (.Name y py) env (.ref D)) _ _ _
  have nD : ¬ N D := fun z => by obtain ⟨o, e⟩ := S.alive D z; rw [hD] at e; cases e
  have nC : ¬ N C := fun z => by obtain ⟨o, e⟩ := S.alive C z; rw [hC] at e; cases e
  have hCH : H.get? C = none := old_none S.kH hC
  have S2 := S.extOwn k₂ ht₂ hC (by obtain ⟨o, _, _, e, _⟩ := hns; exact ⟨o, e⟩)
  have rD : Rep c h₂ (fun b => N b ∨ b = C) (.ref D) (.list acc) := by rw [Rep]; exact ⟨D, us, rfl, fun z => z.elim nD hDC, hp, hr.mono2 fun b o nb e => ⟨fun z => nb (z.imp id .inr), e⟩⟩
  have hLC : env.locals ≠ C := fun z => nC (z ▸ S.lN)
  have hXC : ¬ X C := fun z => nC (S.sup C z)
  have cC : ∀ x, env.cells.lookup x ≠ some C := fun x e => nC (S.cells x C e).1
  refine wpAny_assign_Name (S2.put (.inl hy) (T := .val (.list acc)) rD (fun _ e => nomatch e) fun h₃ tk₃ ht₃ up S3 => ?_)
  have ns3 : h₃.Ns C m := hns.at' fun o e => up C o (Ne.symm hLC) cC e
  refine ⟨m, ns3, fun h₄ hs₄ => ?_⟩
  exact q .next (.next _) h₄ tk₃ ht₃ ⟨_, S3.dropNs ht₃ hXC hCH (.inr rfl) ns3 hLC fun b o nb e => hs₄.extBut b o nb e⟩ hψ
theorem CompOk1.filter {scope : Scope} {x : Str} {target elt : Expr} {ifs : List Expr} {Ψ : List V → Prop} {items : List V} (p : V → Bool) (f : V → V) (hl : items.length ≤ sizeLine)
    (h : ∀ C y, y ∈ items → AsK (fun n => scope.names.lookup n = some .local ∨ n = x) target y (compσ scope env σ) fun τ => TestsP c d (cEnv1 scope env x C) τ ifs fun ok => ok = p y ∧ (ok = true → EvE c d (cEnv1 scope env x C) τ elt (fun z => z = f y))) (h2 : Ψ ((items.filter p).map f)) :
    CompOk1 c d env σ scope x target ifs elt (fun items i acc => acc = ((items.take i).filter p).map f) Ψ items := by
  have tm : ∀ {env : Env} {τ : Store} {ifs : List Expr} {Φ Φ' : Bool → Prop}, TestsP c d env τ ifs Φ → (∀ b, Φ b → Φ' b) → TestsP c d env τ ifs Φ' := by
    intro env τ ifs
    induction ifs with
    | nil => intro Φ Φ' h i; exact i _ h
    | cons t ts ih =>
      intro Φ Φ' h i
      refine .mk fun H X N s S A Q R q => ?_
      refine EvT.run h H X N s S A Q R fun b h' tk a b' c' => q b h' tk a b' ?_
      cases b with
      | true => simp only [if_true] at c' ⊢; exact ih c' i
      | false => simp only [Bool.false_eq_true, if_false] at c' ⊢; exact i _ c'
  refine ⟨hl, rfl, fun C i y acc hy ha => ?_, fun acc ha => ?_⟩
  · refine (h C y (List.mem_of_getElem? hy)).mono fun τ hτ => tm hτ fun b ⟨hb, he⟩ => ?_
    cases b with
    | true =>
      simp only [if_true]
      refine (he rfl).mono fun z hz => ?_
      subst ha hz
      rw [List.take_add_one, hy, List.filter_append, List.map_append]
      simp [← hb]
    | false =>
      simp only [Bool.false_eq_true, if_false]
      subst ha
      rw [List.take_add_one, hy, List.filter_append, List.map_append]
      simp [← hb]
  · subst ha; rw [List.take_length]; exact h2
/-- `a or b or ..` and `a and b and ..`, one at a time -/
theorem et_orC {a b : Expr} {rest : List Expr} {pos : Pos} {Φ : Bool → Prop} (h : EvT c d env σ a fun t => if t = true then Φ true else EvT c d env σ (.BoolOp .Or (b :: rest) pos) Φ) : EvT c d env σ (.BoolOp .Or (a :: b :: rest) pos) Φ := .mk fun H X N s S A Q R q => by
  show wpAny c.M A (isTrue a env (eval a env) >>= fun t => match BoolOp.Or, t with | .And, false => pure false | .Or, true => pure true | _, _ => allTrue .Or (b :: rest) env) Q _ s
  refine wpAny_bind (h.run H X N s S A _ R fun t h' tk k ht hb => ?_)
  cases t with
  | true => simp only [if_true] at hb; exact wpAny_pure (q _ h' tk k ht hb)
  | false =>
    simp only [Bool.false_eq_true, if_false] at hb
    refine hb.run H X N _ (S.ext k ht) A _ R fun t2 h2 tk2 k2 ht2 hb2 => q _ h2 tk2 (k.trans k2) ht2 hb2
theorem pickV_plain (l : List V) (lo hi : Option Int) : pickV l lo hi none = (l.drop (lo.elim 0 (clipAt l.length))).take (hi.elim l.length (clipAt l.length) - lo.elim 0 (clipAt l.length)) := by
  unfold pickV
  rw [sliceBounds_plain]
  simp only [sliceRange_one]
  have := pick_run l.toArray (lo.elim 0 (clipAt l.length)) (hi.elim l.length (clipAt l.length) - lo.elim 0 (clipAt l.length))
  simpa using this
theorem pickV_from (l : List V) (a : Nat) : pickV l (some a) none none = l.drop a := by
  rw [pickV_plain]
  simp only [Option.elim, clipAt_nat]
  rcases Nat.le_total a l.length with h | h
  · rw [Nat.min_eq_left h, List.take_of_length_le (by simp)]
  · rw [Nat.min_eq_right h, List.drop_of_length_le h, List.drop_of_length_le (Nat.le_refl _)]; simp
theorem pickV_upto (l : List V) (b : Nat) : pickV l none (some b) none = l.take b := by
  rw [pickV_plain]
  simp only [Option.elim, clipAt_nat, List.drop_zero, Nat.sub_zero]
  rcases Nat.le_total b l.length with h | h
  · rw [Nat.min_eq_left h]
  · rw [Nat.min_eq_right h, List.take_of_length_le (Nat.le_refl _), List.take_of_length_le h]
theorem pickV_init (l : List V) : pickV l none (some (-1)) none = l.dropLast := by
  rw [pickV_plain]
  simp only [Option.elim, show (-1 : Int) = -((1 : Nat) : Int) by rfl, clipAt_neg _ _ (Nat.le_refl 1), List.drop_zero, Nat.sub_zero]
  rw [List.dropLast_eq_take]
theorem pickV_last (l : List V) : pickV l (some (-1)) none none = l.drop (l.length - 1) := by
  rw [pickV_plain]
  simp only [Option.elim, show (-1 : Int) = -((1 : Nat) : Int) by rfl, clipAt_neg _ _ (Nat.le_refl 1)]
  rw [List.take_of_length_le (by simp)]
end
end Mine

namespace Mine
/-! law 1's rules -/
section
variable {c : Cx} {d : Nat} {env : Env} {σ : Store} {Φ : V → Prop}
theorem fn_max2 {a b : Int} (h : Φ (.int (max a b))) : OpL c d (fun vs => call (.builtin "max") vs) [.int a, .int b] Φ := fun N s vs av r A Q R q => by
  obtain ⟨v, u, rfl, r1, r2⟩ := r.two
  obtain ⟨t, rfl⟩ := r1.toInt; obtain ⟨t', rfl⟩ := r2.toInt
  refine max_two_ints R.handled fun h' tk k => ?_
  by_cases e : b > a
  · rw [if_pos e]
    rw [show max a b = b by omega] at h
    exact q _ (.int b) h' tk k (Nat.zero_le _) (Rep.int _ _) h
  · rw [if_neg e]
    rw [show max a b = a by omega] at h
    exact q _ (.int a) h' tk k (Nat.zero_le _) (Rep.int _ _) h
/-- a method without arguments -/
theorem ev_ometh0 {o : Expr} {name : Str} {apos pos : Pos} {f : Addr}
    (h : EvE c d env σ o fun x => (∃ C names vals, x = .obj C names vals ∧ name ∉ names ∧ methOk c.K C name f = true ∧ keepIn c.K (.ref f) = true) ∧ OpL c d (fun vs => call (.ref f) vs) [x] Φ)
    (hbase : attributeBase o name env (eval o env) = eval o env := by rfl) (hline : (apos.endLine == pos.line) = true := by rfl) : EvE c d env σ (.Call (.Attribute o name apos) [] [] pos) Φ := .mk fun H X N s S A Q R q => by
  rw [arm_eval_Call, hbase]
  refine wpAny_bind (h.run H X N s S A _ R fun v x h' tk k ht r hx => ?_)
  obtain ⟨⟨C, names, vals, rfl, hnm, hok, hkp⟩, hx⟩ := hx
  have S1 := S.ext k ht
  have r0 := r
  simp only [Rep] at r
  obtain ⟨a, dx, es, n, rfl, na, nd, q1, q2, q5, vs, q3, q4⟩ := r
  unfold methOk at hok
  simp only [Bool.and_eq_true, beq_iff_eq] at hok
  obtain ⟨⟨o1, o2⟩, o3⟩ := hok
  refine wpAny_bind (wpAny_standAt ?_)
  have hform : methodCallForm (([] : List Expr).length + ([] : List Keyword).length) (backTo pos (starEach [] env)) (backToKw pos (keywordEach [] env)) = true := rfl
  have hpos : methodCallPos true o env apos pos = pure pos := by unfold methodCallPos; simp [hline]
  unfold methodCall
  rw [hform]
  refine wpAny_bind (wpAny_holding (method_fn S1.av.ok.K (inst_at q1 q2) (plainGet_of o1).1 (plainGet_of o1).2 o2 o3 (by show (lookIn name (dictOf es n)).map _ = _; rw [lookIn_dict, q5 name hnm]; rfl) ?_))
  refine wpAny_bind (wpAny_of_eq hpos ?_)
  refine callWith_K0 S1.av.ok.K hkp ?_
  exact hx N _ [_] S1.av (RepL.cons r0 RepL.nil) A _ R fun v x h4 tk4 k4 ht4 r4 h5 => q v x h4 tk4 (k.trans k4) ht4 r4 h5
theorem pickV_rev (l : List V) : pickV l none none (some (-1)) = l.reverse := by
  unfold pickV
  have e : sliceBounds none none (some (-1)) l.length = ((l.length : Int) - 1, -1, -1) := by
    unfold sliceBounds; simp
  rw [e]
  have e2 : sliceRange ((l.length : Int) - 1) (-1) (-1) = (List.range l.length).map fun k => l.length - 1 - k := by
    unfold sliceRange
    rw [if_neg (by decide)]
    have hc : (if ((l.length : Int) - 1 > -1) then ((l.length : Int) - 1 - -1 - -1 - 1) / (- -1) else 0) = (l.length : Int) := by
      split
      · rw [show (- -1 : Int) = 1 by decide, Int.ediv_one]; omega
      · omega
    rw [hc]
    show (List.range ((l.length : Int)).toNat).map _ = _
    rw [Int.toNat_natCast]
    apply List.map_congr_left
    intro k hk
    rw [List.mem_range] at hk
    omega
  rw [e2]
  apply List.ext_getElem?
  intro i
  have hm : ((List.range l.length).map fun k => l.length - 1 - k).filterMap (l[·]?) = (List.range l.length).filterMap fun k => l[l.length - 1 - k]? := by
    rw [List.filterMap_map]; rfl
  rw [hm]
  have hall : ∀ m, m ≤ l.length → (List.range m).filterMap (fun k => l[l.length - 1 - k]?) = l.reverse.take m := by
    intro m hm
    induction m with
    | zero => simp
    | succ m ih =>
      rw [List.range_succ, List.filterMap_append, ih (by omega), List.take_add_one]
      congr 1
      rw [List.getElem?_reverse (by omega)]
      simp only [List.filterMap_cons, List.filterMap_nil]
      cases h : l[l.length - 1 - m]? <;> rfl
  rw [hall _ (Nat.le_refl _), List.take_of_length_le (by simp)]
/-! equality of tuples and lists -/
theorem eqat_int {N : Addr → Prop} {h : Heap} {A : Around} {s : Shared} {v u : Value} {a b : Int} (r1 : Rep c h N v (.int a)) (r2 : Rep c h N u (.int b)) : SeqAt.EqAt A s v u (decide (a = b)) := by
  obtain ⟨t, rfl⟩ := r1.toInt; obtain ⟨t', rfl⟩ := r2.toInt
  have := SeqAt.EqAt.int_int (A := A) (s := s) a t b t'
  by_cases e : a = b
  · subst e; simpa using this
  · rw [decide_eq_false e]; rwa [beq_eq_false_iff_ne.mpr e] at this
theorem all_lists {α : Type} [DecidableEq α] : ∀ {l m : List α} {e : Nat → Bool}, (∀ j a b, l[j]? = some a → m[j]? = some b → e j = decide (a = b)) → (((List.range (min l.length m.length)).all e && l.length == m.length) = decide (l = m))
  | [], [], e, _ => by simp
  | [], b :: m, e, _ => by simp
  | a :: l, [], e, _ => by simp
  | a :: l, b :: m, e, h => by
    have ih := @all_lists α _ l m (fun j => e (j + 1)) (fun j x y h1 h2 => h (j + 1) x y (by simpa using h1) (by simpa using h2))
    have h0 := h 0 a b rfl rfl
    rw [List.length_cons, List.length_cons, show min (l.length + 1) (m.length + 1) = min l.length m.length + 1 by omega, List.range_succ_eq_map, List.all_cons, List.all_map, h0]
    have : (l.length + 1 == m.length + 1) = (l.length == m.length) := by simp
    rw [this, Bool.and_assoc]
    have ih' : ((List.range (min l.length m.length)).all (e ∘ Nat.succ) && l.length == m.length) = decide (l = m) := ih
    rw [ih']
    by_cases e1 : a = b <;> by_cases e2 : l = m <;> simp [e1, e2]
theorem isTup_inj {h : Heap} {a : Addr} {x y : Array Value} (h1 : IsTup h a x) (h2 : IsTup h a y) : x = y := by
  obtain ⟨o, e, _, n, d⟩ := h1
  obtain ⟨o', e', _, n', d'⟩ := h2
  rw [e] at e'; cases e'
  rw [d] at d'; cases d'; rfl
theorem isList_inj {h : Heap} {a : Addr} {x y : Array Value} (h1 : h.PlainList a x) (h2 : h.PlainList a y) : x = y := by
  obtain ⟨n, e⟩ := h1
  obtain ⟨n', e'⟩ := h2
  rw [e] at e'; cases e'; rfl
theorem ints_inj {N N' : Addr → Prop} {h h' : Heap} : ∀ {ns ms : List Int} {vs : List Value}, RepL c h N vs (ns.map .int) → RepL c h' N' vs (ms.map .int) → ns = ms
  | [], [], _, _, _ => rfl
  | [], m :: ms, vs, r, r' => absurd (r.length.symm.trans r'.length) (by simp)
  | n :: ns, [], vs, r, r' => absurd (r.length.symm.trans r'.length) (by simp)
  | n :: ns, m :: ms, vs, r, r' => by
    rw [List.map_cons, RepL] at r r'
    obtain ⟨v, t, rfl, r1, r2⟩ := r
    obtain ⟨v', t', e, r1', r2'⟩ := r'
    cases e
    obtain ⟨x, rfl⟩ := r1.toInt
    obtain ⟨y, e⟩ := r1'.toInt
    cases e
    rw [ints_inj r2 r2']
def tupI (ns : List Int) : V := .tup (ns.map .int)
theorem tupI_inj {N N' : Addr → Prop} {h : Heap} {v : Value} {ns ms : List Int} (r : Rep c h N v (tupI ns)) (r' : Rep c h N' v (tupI ms)) : ns = ms := by
  obtain ⟨a, vs, rfl, _, ht, rl⟩ := r.toTup
  obtain ⟨b, us, e, _, ht', rl'⟩ := r'.toTup
  cases e
  have := isTup_inj ht ht'
  have : vs = us := by simpa using this
  subst this
  exact ints_inj rl rl'
theorem eqat_tup {N : Addr → Prop} {A : Around} {s : Shared} {v u : Value} {ns ms : List Int} (r1 : Rep c s.heap N v (tupI ns)) (r2 : Rep c s.heap N u (tupI ms)) (hu : A.units < cLine) : SeqAt.EqAt A s v u (decide (ns = ms)) := by
  have r1' := r1; have r2' := r2
  obtain ⟨a, vs, rfl, _, ht, rl⟩ := r1'.toTup
  obtain ⟨b, us, rfl, _, ht', rl'⟩ := r2'.toTup
  by_cases e : a = b
  · subst e
    rw [decide_eq_true (tupI_inj r1 r2)]
    exact SeqAt.EqAt.same _
  · have key := SeqAt.RcAt.tuples (A := A) (s := s) (e := fun j => decide (ns.getD j 0 = ms.getD j 0)) ht ht' hu fun j h1 h2 => ?_
    · rw [List.size_toArray, List.size_toArray, rl.length, rl'.length, List.length_map, List.length_map] at key
      rw [all_lists (l := ns) (m := ms) (e := fun j => decide (ns.getD j 0 = ms.getD j 0)) fun j x y h1 h2 => by rw [List.getD_eq_getElem?_getD, List.getD_eq_getElem?_getD, h1, h2]; rfl] at key
      exact SeqAt.EqAt.of_refs e key
    · have e1 : vs[j]? = some vs.toArray[j] := by simp
      have e2 : us[j]? = some us.toArray[j] := by simp
      obtain ⟨x, hx, rx⟩ := rl.get' e1
      obtain ⟨y, hy, ry⟩ := rl'.get' e2
      rw [List.getElem?_map] at hx hy
      obtain ⟨x', hx', rfl⟩ := Option.map_eq_some_iff.mp hx
      obtain ⟨y', hy', rfl⟩ := Option.map_eq_some_iff.mp hy
      have e3 : ns.getD j 0 = x' := by rw [List.getD_eq_getElem?_getD, hx']; rfl
      have e4 : ms.getD j 0 = y' := by rw [List.getD_eq_getElem?_getD, hy']; rfl
      show SeqAt.EqAt _ _ _ _ (decide (ns.getD j 0 = ms.getD j 0))
      rw [e3, e4]
      exact eqat_int rx ry
theorem eqat_rows {N : Addr → Prop} {A : Around} {s : Shared} {vs us : List Value} {rs qs : List (List Int)} (r1 : RepL c s.heap N vs (rs.map tupI)) (r2 : RepL c s.heap N us (qs.map tupI)) (hu : A.units < cLine) (j : Nat) (h1 : j < vs.toArray.size) (h2 : j < us.toArray.size) :
    SeqAt.EqAt A s vs.toArray[j] us.toArray[j] (decide (rs.getD j [] = qs.getD j [])) := by
  have e1 : vs[j]? = some vs.toArray[j] := by simp
  have e2 : us[j]? = some us.toArray[j] := by simp
  obtain ⟨x, hx, rx⟩ := r1.get' e1
  obtain ⟨y, hy, ry⟩ := r2.get' e2
  rw [List.getElem?_map] at hx hy
  obtain ⟨x', hx', rfl⟩ := Option.map_eq_some_iff.mp hx
  obtain ⟨y', hy', rfl⟩ := Option.map_eq_some_iff.mp hy
  have e3 : rs.getD j [] = x' := by rw [List.getD_eq_getElem?_getD, hx']; rfl
  have e4 : qs.getD j [] = y' := by rw [List.getD_eq_getElem?_getD, hy']; rfl
  rw [e3, e4]
  exact eqat_tup rx ry hu
theorem rows_bool {rs qs : List (List Int)} (h : rs.length = qs.length) : (List.range rs.length).all (fun j => decide (rs.getD j [] = qs.getD j [])) = decide (rs = qs) := by
  have := all_lists (l := rs) (m := qs) (e := fun j => decide (rs.getD j [] = qs.getD j [])) fun j x y h1 h2 => by rw [List.getD_eq_getElem?_getD, List.getD_eq_getElem?_getD, h1, h2]; rfl
  rw [← this, h, Nat.min_self]; simp
theorem units_in1 {A : Around} {d : Nat} (R : Room d A) : A.units < cLine ∧ A.in1.units < cLine := by
  have := R.units
  exact ⟨by omega, by show A.units + 1 < cLine; omega⟩
/-- lists of tuples of ints -/
theorem op_eqr {rs qs : List (List Int)} (h : Φ (.bool (decide (rs = qs)))) : Op2 c d (compareOp .Eq) (.list (rs.map tupI)) (.list (qs.map tupI)) Φ := fun N s v u av ra rb => by
  obtain ⟨a, vs, rfl, _, hp, rl⟩ := ra.toList; obtain ⟨b, us, rfl, _, hp2, rl2⟩ := rb.toList
  have l1 : vs.toArray.size = rs.length := by rw [List.size_toArray, rl.length, List.length_map]
  have l2 : us.toArray.size = qs.length := by rw [List.size_toArray, rl2.length, List.length_map]
  refine Mk.now h av.tok fun A Q R q => ?_
  by_cases e : rs.length = qs.length
  · have := SeqAt.RcAt.lists (Heap.PlainList.isList hp) (Heap.PlainList.isList hp2) (by rw [l1, l2, e]) (units_in1 R).1 (eqat_rows rl rl2 (units_in1 R).2)
    rw [l1, rows_bool e] at this
    exact this c.prog c.w _ _ (q _ s.heap s.toks (Ext.refl _) (Rep.bool _))
  · have hne : ¬ rs = qs := fun z => e (by rw [z])
    rw [decide_eq_false hne] at q
    exact SeqAt.RcAt.lists_lengths (Heap.PlainList.isList hp) (Heap.PlainList.isList hp2) (by rw [l1, l2]; simpa using e) (units_in1 R).1 c.prog c.w _ _ (q _ s.heap s.toks (Ext.refl _) (Rep.bool _))
theorem op_ner {rs qs : List (List Int)} (h : Φ (.bool (!decide (rs = qs)))) : Op2 c d (compareOp .NotEq) (.list (rs.map tupI)) (.list (qs.map tupI)) Φ := fun N s v u av ra rb => by
  obtain ⟨a, vs, rfl, _, hp, rl⟩ := ra.toList; obtain ⟨b, us, rfl, _, hp2, rl2⟩ := rb.toList
  have l1 : vs.toArray.size = rs.length := by rw [List.size_toArray, rl.length, List.length_map]
  have l2 : us.toArray.size = qs.length := by rw [List.size_toArray, rl2.length, List.length_map]
  refine Mk.now h av.tok fun A Q R q => ?_
  by_cases e : rs.length = qs.length
  · have := SeqAt.RcNeAt.lists (Heap.PlainList.isList hp) (Heap.PlainList.isList hp2) (by rw [l1, l2, e]) (units_in1 R).1 (eqat_rows rl rl2 (units_in1 R).2)
    rw [l1, rows_bool e] at this
    exact this c.prog c.w _ _ (q _ s.heap s.toks (Ext.refl _) (Rep.bool _))
  · have hne : ¬ rs = qs := fun z => e (by rw [z])
    rw [decide_eq_false hne] at q
    exact SeqAt.RcNeAt.lists_lengths (Heap.PlainList.isList hp) (Heap.PlainList.isList hp2) (by rw [l1, l2]; simpa using e) (units_in1 R).1 c.prog c.w _ _ (q _ s.heap s.toks (Ext.refl _) (Rep.bool _))
/-- a tuple of a tuple of ints and an int -/
theorem op_eqn {ns ms : List Int} {a b : Int} (h : Φ (.bool (decide (ns = ms) && decide (a = b)))) : Op2 c d (compareOp .Eq) (.tup [tupI ns, .int a]) (.tup [tupI ms, .int b]) Φ := fun N s v u av ra rb => by
  obtain ⟨x, vs, rfl, _, hp, rl⟩ := ra.toTup; obtain ⟨y, us, rfl, _, hp2, rl2⟩ := rb.toTup
  obtain ⟨v1, v2, rfl, r1, r2⟩ := rl.two
  obtain ⟨u1, u2, rfl, r3, r4⟩ := rl2.two
  refine Mk.now h av.tok fun A Q R q => ?_
  have := SeqAt.RcAt.tuples (A := A) (s := s) (e := fun j => if j = 0 then decide (ns = ms) else decide (a = b)) hp hp2 (units_in1 R).1 fun j h1 h2 => ?_
  · have e : ((List.range (min [v1, v2].toArray.size [u1, u2].toArray.size)).all (fun j => if j = 0 then decide (ns = ms) else decide (a = b)) && [v1, v2].toArray.size == [u1, u2].toArray.size) = (decide (ns = ms) && decide (a = b)) := by
      simp [List.range_succ]
    rw [e] at this
    exact this c.prog c.w _ _ (q _ s.heap s.toks (Ext.refl _) (Rep.bool _))
  · match j, h1 with
    | 0, _ => exact eqat_tup r1 r3 (units_in1 R).2
    | 1, _ => exact eqat_int r2 r4
/-- where a text stands in a list of texts -/
theorem fn_lindex {ts : List (List Nat)} {x : List Nat} (hx : x ∈ ts) (hs : ts.length ≤ 1000000) (h : Φ (.int (ts.idxOf x : Nat))) : OpL c d (fun vs => call (.builtin "list.index") vs) [.list (ts.map .str), .str x] Φ := fun N s vs av r => by
  obtain ⟨v, u, rfl, r1, r2⟩ := r.two
  obtain ⟨a, vs, rfl, _, hp, rl⟩ := r1.toList
  obtain ⟨t, rfl⟩ := r2.toStr
  have hp' := hp
  obtain ⟨n, ho⟩ := hp'
  have l1 : vs.length = ts.length := by rw [rl.length, List.length_map]
  have hj : ts.idxOf x < ts.length := List.idxOf_lt_length_iff.mpr hx
  have strAt : ∀ j, (hj : j < vs.toArray.size) → ∃ y t', ts[j]? = some y ∧ vs.toArray[j] = .str (S y) t' := fun j hj => by
    have e1 : vs[j]? = some vs.toArray[j] := by simp
    obtain ⟨z, hz, rz⟩ := rl.get' e1
    rw [List.getElem?_map] at hz
    obtain ⟨y, hy, rfl⟩ := Option.map_eq_some_iff.mp hz
    obtain ⟨t', e⟩ := rz.toStr
    exact ⟨y, t', hy, e⟩
  let e : Value → Bool := fun v => match v with | .str y _ => y == S x | _ => false
  have eS : ∀ (y : List Nat) (t' : Tok), e (.str (S y) t') = decide (y = x) := fun y t' => by
    show (S y == S x) = _
    by_cases q : y = x
    · subst q; simp
    · rw [decide_eq_false q]; exact beq_eq_false_iff_ne.mpr fun z => q (S_inj z)
  refine Mk.now h av.tok fun A Q R q => ?_
  refine call_meets PySem.F.slot_list_index ⟨_, ho, rfl⟩ PySem.F.entry_list_index (PySem.F.args_list_index_2 _ _)
    (SeqAt.list_indexAt a vs.toArray n none #[] (.str (S x) t) e (ts.idxOf x) (by rw [List.size_toArray, l1]; exact hj) (by omega) ?_ ?_) ⟨ho, fun y hy => ?_, q _ s.heap (s.toks + 1) (Ext.refl _) (Rep.int _ _)⟩
  · obtain ⟨y, t', h1, h2⟩ := strAt (ts.idxOf x) (by rw [List.size_toArray, l1]; exact hj)
    refine (congrArg e h2).trans ?_
    rw [eS y t']
    have := List.getElem?_eq_getElem hj
    rw [h1, List.getElem_idxOf hj] at this
    exact decide_eq_true (Option.some.inj this)
  · intro j hjs hlt
    obtain ⟨y, t', h1, h2⟩ := strAt j hjs
    show e vs.toArray[j] = false
    rw [h2, eS y t']
    refine decide_eq_false fun z => ?_
    subst z
    have hjl : j < ts.length := by
      rcases Nat.lt_or_ge j ts.length with q | q
      · exact q
      · rw [List.getElem?_eq_none q] at h1; cases h1
    have h4 := List.getElem?_eq_getElem hjl
    rw [h1] at h4
    have h3 := List.not_of_lt_findIdx (p := (· == y)) (xs := ts) (i := j) hlt
    rw [← Option.some.inj h4] at h3
    simp at h3
  · obtain ⟨j, hjs, rfl⟩ := List.getElem_of_mem (Array.mem_toList_iff.mpr hy)
    obtain ⟨y, t', h1, h2⟩ := strAt j (by simpa using hjs)
    have h2' : vs.toArray.toList[j] = .str (S y) t' := by simpa using h2
    rw [h2', eS y t']
    have := SeqAt.EqAt.str_str (A := A.in1) (s := s) (S y) t' (S x) t
    have e3 : ((S y) == (S x)) = decide (y = x) := eS y t'
    rwa [e3] at this
end
end Mine

namespace Mine
/-! law 1: leads -/
def leadT (runs : List Nat) : List Nat := jn [9] (runs.map fun r => List.replicate r 32)
def colR (ts : Nat) : List Nat → Nat → Nat
  | [], k => k
  | [r], k => k + r
  | r :: q :: l, k => colR ts (q :: l) (((k + r) / ts + 1) * ts)
theorem expand_lead (ts : Nat) : ∀ (runs : List Nat) (k : Nat), expand ts (leadT runs) k = colR ts runs k
  | [], k => rfl
  | [r], k => by show expand ts (List.replicate r 32) k = _; rw [expand_blank]; rfl
  | r :: q :: l, k => by
    have ih := expand_lead ts (q :: l) (((k + r) / ts + 1) * ts)
    show expand ts (List.replicate r 32 ++ [9] ++ leadT (q :: l)) k = _
    rw [expand_append, expand_append, expand_blank]
    exact ih
theorem lead_signs : ∀ (runs : List Nat), ∀ ch ∈ leadT runs, ch = 32 ∨ ch = 9
  | [], ch, h => by cases h
  | [r], ch, h => .inl (List.eq_of_mem_replicate (show ch ∈ List.replicate r 32 from h))
  | r :: q :: l, ch, h => by
    have h' : ch ∈ List.replicate r 32 ++ [9] ++ leadT (q :: l) := h
    rcases List.mem_append.mp h' with h' | h'
    · rcases List.mem_append.mp h' with h' | h'
      · exact .inl (List.eq_of_mem_replicate h')
      · exact .inr (List.mem_singleton.mp h')
    · exact lead_signs (q :: l) ch h'
def leadW (runs : List Nat) : WS := wsOf (leadT runs ++ [120, 9])
theorem lvl_lead {ts : Nat} (h : 1 ≤ ts) (runs : List Nat) : lvl (leadW runs) ts = colR ts runs 0 := by
  unfold leadW
  rw [lvl_of h (lead_signs runs) [9], expand_lead]
theorem lead_len : ∀ (runs : List Nat), (∀ r ∈ runs, r ≤ 5) → (leadT runs).length ≤ 6 * runs.length
  | [], _ => Nat.zero_le _
  | [r], h => by
    have := h r (by simp)
    show (List.replicate r 32).length ≤ _
    rw [List.length_replicate]; simp; omega
  | r :: q :: l, h => by
    have ih := lead_len (q :: l) fun x hx => h x (List.mem_cons_of_mem _ hx)
    have := h r (by simp)
    show (List.replicate r 32 ++ [9] ++ leadT (q :: l)).length ≤ _
    rw [List.length_append, List.length_append, List.length_replicate]
    simp only [List.length_cons, List.length_nil] at ih ⊢; omega
/-! what a lead's Whitespace holds -/
theorem sum_set : ∀ (l : List Nat) (b : Nat), b < l.length → (l.set b (l.getD b 0 + 1)).sum = l.sum + 1
  | [], b, h => by simp at h
  | x :: l, 0, h => by simp; omega
  | x :: l, b + 1, h => by
    have := sum_set l b (by simpa using h)
    simp only [List.set_cons_succ, List.getD_cons_succ, List.sum_cons, this]; omega
structure Good (w : WS) : Prop where
  sum : w.count.sum = w.nt
  last : ∀ k, k + 1 = w.count.length → w.count.getD k 0 ≠ 0
theorem pad_sum (w : WS) : w.pad.sum = w.count.sum := by
  unfold WS.pad; split
  · rw [List.sum_append]; simp
  · rfl
theorem pad_length (w : WS) : w.pad.length = max w.count.length (w.b + 1) := by
  unfold WS.pad; split
  · rw [List.length_append, List.length_replicate]; omega
  · omega
theorem Good.tab {w : WS} (g : Good w) : Good w.tab := by
  refine ⟨?_, fun k hk => ?_⟩
  · show (w.pad.set w.b _).sum = w.nt + 1
    rw [sum_set _ _ w.pad_len, pad_sum, g.sum]
  · have hk' : k + 1 = (w.pad.set w.b (w.pad.getD w.b 0 + 1)).length := hk
    show (w.pad.set w.b (w.pad.getD w.b 0 + 1)).getD k 0 ≠ 0
    rw [List.length_set] at hk'
    rw [List.getD_eq_getElem?_getD, List.getElem?_set]
    by_cases e : w.b = k
    · rw [if_pos e, if_pos (by omega)]; simp
    · rw [if_neg e]
      have hlen := pad_length w
      have hn : ¬ w.count.length ≤ w.b := fun z => by omega
      have hp : w.pad = w.count := by unfold WS.pad; rw [if_neg hn]
      rw [hp] at hk' ⊢
      rw [← List.getD_eq_getElem?_getD]
      exact g.last k hk'
theorem tab_len (w : WS) : w.tab.count.length = max w.count.length (w.b + 1) := by
  show (w.pad.set w.b _).length = _
  rw [List.length_set, pad_length]
theorem wsRun_blanks (rest : List Nat) : ∀ (r : Nat) (w : WS), wsRun (List.replicate r 32 ++ rest) w = wsRun rest ⟨w.n + r, w.nt, w.b + r, w.count⟩
  | 0, w => by simp
  | r + 1, w => by
    rw [List.replicate_succ, List.cons_append, wsRun, if_pos rfl, wsRun_blanks rest r]
    show wsRun rest ⟨w.n + 1 + r, w.nt, w.b + 1 + r, w.count⟩ = _
    rw [show w.n + 1 + r = w.n + (r + 1) by omega, show w.b + 1 + r = w.b + (r + 1) by omega]
def mxL : List Nat → Nat → Nat
  | [], m => m
  | [_], m => m
  | r :: q :: l, m => mxL (q :: l) (max m (r + 1))
theorem wsRun_lead (z : List Nat) : ∀ (runs : List Nat) (w : WS), runs ≠ [] → w.b = 0 → Good w →
    (wsRun (leadT runs ++ 120 :: z) w).b = runs.getLastD 0 ∧ (wsRun (leadT runs ++ 120 :: z) w).n = w.n + (leadT runs).length ∧ Good (wsRun (leadT runs ++ 120 :: z) w) ∧ (wsRun (leadT runs ++ 120 :: z) w).count.length = mxL runs w.count.length
  | [], _, h, _, _ => absurd rfl h
  | [r], w, _, hb, g => by
    have e : leadT [r] = List.replicate r 32 := rfl
    rw [e, wsRun_blanks, wsRun, if_neg (by decide), if_neg (by decide)]
    refine ⟨?_, ?_, ⟨g.sum, g.last⟩, rfl⟩
    · show w.b + r = r; omega
    · rw [List.length_replicate]
  | r :: q :: l, w, _, hb, g => by
    have e : leadT (r :: q :: l) ++ 120 :: z = List.replicate r 32 ++ (9 :: (leadT (q :: l) ++ 120 :: z)) := by
      show List.replicate r 32 ++ [9] ++ leadT (q :: l) ++ 120 :: z = _
      simp
    rw [e, wsRun_blanks, wsRun, if_neg (by decide), if_pos rfl]
    have g' : Good (⟨w.n + r, w.nt, w.b + r, w.count⟩ : WS) := ⟨g.sum, g.last⟩
    obtain ⟨i1, i2, i3, i4⟩ := wsRun_lead z (q :: l) (WS.tab ⟨w.n + r, w.nt, w.b + r, w.count⟩) (by simp) rfl g'.tab
    refine ⟨i1, ?_, i3, ?_⟩
    · rw [i2]
      show w.n + r + 1 + _ = w.n + (List.replicate r 32 ++ [9] ++ leadT (q :: l)).length
      simp; omega
    · rw [i4, tab_len]
      show mxL (q :: l) (max w.count.length (w.b + r + 1)) = mxL (q :: l) (max w.count.length (r + 1))
      rw [hb, Nat.zero_add]
structure LeadOk (runs : List Nat) (u : WS) : Prop where
  b : u.b = runs.getLastD 0
  n : u.n = (leadT runs).length
  good : Good u
  len : u.count.length = mxL runs 0
theorem leadW_ok {runs : List Nat} (h : runs ≠ []) : LeadOk runs (leadW runs) := by
  obtain ⟨a, b, c, d⟩ := wsRun_lead [9] runs ⟨0, 0, 0, []⟩ h rfl ⟨rfl, fun k hk => by simp at hk⟩
  exact ⟨a, by rw [← Nat.zero_add (leadT runs).length]; exact b, c, d⟩
/-- the longest run -/
def mxR : List Nat → Nat
  | [] => 0
  | r :: l => max r (mxR l)
theorem mxR_ge : ∀ {l : List Nat} {r : Nat}, r ∈ l → r ≤ mxR l
  | x :: l, r, h => by
    rcases List.mem_cons.mp h with rfl | h
    · exact Nat.le_max_left _ _
    · exact Nat.le_trans (mxR_ge h) (Nat.le_max_right _ _)
theorem mxR_mem : ∀ {l : List Nat}, l ≠ [] → mxR l ∈ l
  | [], h => absurd rfl h
  | [x], _ => by simp [mxR]
  | x :: y :: l, _ => by
    have ih := mxR_mem (l := y :: l) (by simp)
    rw [mxR]
    rcases Nat.le_total x (mxR (y :: l)) with q | q
    · rw [Nat.max_eq_right q]; exact List.mem_cons_of_mem _ ih
    · rw [Nat.max_eq_left q]; exact List.mem_cons_self
theorem mxR_append : ∀ (a b : List Nat), mxR (a ++ b) = max (mxR a) (mxR b)
  | [], b => by simp [mxR]
  | x :: a, b => by rw [List.cons_append, mxR, mxR_append a b, mxR, Nat.max_assoc]
theorem mxL_mxR : ∀ (runs : List Nat) (m : Nat), runs ≠ [] → max (mxL runs m) (runs.getLastD 0 + 1) = max m (mxR runs + 1)
  | [], _, h => absurd rfl h
  | [r], m, _ => by simp [mxL, mxR]
  | r :: q :: l, m, _ => by
    have ih := mxL_mxR (q :: l) (max m (r + 1)) (by simp)
    have e : (r :: q :: l).getLastD 0 = (q :: l).getLastD 0 := by simp [List.getLastD]
    rw [e, mxL, ih]
    show _ = max m (max r (mxR (q :: l)) + 1)
    omega
theorem longest {runs : List Nat} {u : WS} (h : runs ≠ []) (k : LeadOk runs u) : max ((u.count.length : Int) - 1) (u.b : Nat) = ((mxR runs : Nat) : Int) := by
  have := mxL_mxR runs 0 h
  rw [← k.len, ← k.b] at this; omega
theorem lead_bounds {runs : List Nat} {u : WS} (h : runs ≠ []) (k : LeadOk runs u) : u.count.length ≤ mxR runs + 1 ∧ u.b ≤ mxR runs := by
  have := mxL_mxR runs 0 h
  rw [← k.len, ← k.b] at this; omega
theorem expand_one : ∀ (l : List Nat) (k : Nat), expand 1 l k = k + l.length
  | [], k => rfl
  | ch :: l, k => by
    rw [expand, expand_one l]
    simp only [Nat.div_one, Nat.mul_one, ite_self, List.length_cons]; omega
theorem lead_n {runs : List Nat} {u : WS} (k : LeadOk runs u) : u.n = colR 1 runs 0 := by
  rw [← expand_lead, expand_one, k.n]; omega
/-! the same columns at all sizes: the same lead -/
theorem gsum_small (ts : Nat) : ∀ (l : List Nat) (k : Nat), k + l.length ≤ ts → gsum ts l k = 0
  | [], k, _ => rfl
  | x :: l, k, h => by
    rw [List.length_cons] at h
    rw [gsum, gsum_small ts l (k + 1) (by omega), Nat.div_eq_of_lt (by omega)]; simp
theorem take_get_drop {l : List Nat} {t : Nat} (h : t < l.length) : l = l.take t ++ (l.getD t 0 :: l.drop (t + 1)) := by
  have : l.getD t 0 = l[t] := by rw [List.getD_eq_getElem?_getD, List.getElem?_eq_getElem h]; rfl
  rw [this, ← List.drop_eq_getElem_cons h, List.take_append_drop]
theorem drops_eq {C C' : List Nat} {M : Nat} (h1 : C.length = M + 1) (h2 : C'.length = M + 1) (h : ∀ t, 1 ≤ t → t ≤ M → gsum t C 0 = gsum t C' 0) : ∀ j, j ≤ M → C.drop (M + 1 - j) = C'.drop (M + 1 - j)
  | 0, _ => by rw [List.drop_of_length_le (by omega), List.drop_of_length_le (by omega)]
  | j + 1, hj => by
    have ih := drops_eq h1 h2 h j (by omega)
    obtain ⟨t, ht⟩ : ∃ t, t = M + 1 - (j + 1) := ⟨_, rfl⟩
    rw [show M + 1 - j = t + 1 by omega] at ih
    rw [← ht]
    have e := h t (by omega) (by omega)
    rw [take_get_drop (l := C) (t := t) (by omega), take_get_drop (l := C') (t := t) (by omega), gsum_append, gsum_append, gsum_small t (C.take t) 0 (by rw [List.length_take]; omega), gsum_small t (C'.take t) 0 (by rw [List.length_take]; omega), ih, gsum, gsum] at e
    have l1 : (C.take t).length = t := by rw [List.length_take]; omega
    have l2 : (C'.take t).length = t := by rw [List.length_take]; omega
    rw [l1, l2, show (0 + t) / t = 1 by rw [Nat.zero_add, Nat.div_self (by omega)]] at e
    have e2 : C.getD t 0 = C'.getD t 0 := by omega
    have d1 : C.drop t = C.getD t 0 :: C.drop (t + 1) := by
      have hlt : t < C.length := by omega
      rw [List.drop_eq_getElem_cons hlt, List.getD_eq_getElem?_getD, List.getElem?_eq_getElem hlt]; rfl
    have d2 : C'.drop t = C'.getD t 0 :: C'.drop (t + 1) := by
      have hlt : t < C'.length := by omega
      rw [List.drop_eq_getElem_cons hlt, List.getD_eq_getElem?_getD, List.getElem?_eq_getElem hlt]; rfl
    rw [d1, d2, e2, ih]
theorem mod_pair {b b' m s s' : Nat} (h1 : b ≤ m) (h2 : b' ≤ m) (h : b + (m + 1) * s = b' + (m + 1) * s') : b = b' ∧ s = s' := by
  have e := congrArg (· % (m + 1)) h
  simp only [Nat.add_mul_mod_self_left] at e
  rw [Nat.mod_eq_of_lt (by omega), Nat.mod_eq_of_lt (by omega)] at e
  subst e
  exact ⟨rfl, Nat.eq_of_mul_eq_mul_left (show 0 < m + 1 by omega) (by omega)⟩
theorem pads_eq {c c' : List Nat} {b b' M : Nat} (h1 : c.length ≤ M + 1) (h2 : c'.length ≤ M + 1) (hb : b ≤ M) (hb' : b' ≤ M)
    (h : ∀ ts, 1 ≤ ts → ts ≤ M + 1 → b + ts * (gsum ts c 0 + c.sum) = b' + ts * (gsum ts c' 0 + c'.sum)) : b = b' ∧ c ++ List.replicate (M + 1 - c.length) 0 = c' ++ List.replicate (M + 1 - c'.length) 0 := by
  have h0 := h (M + 1) (by omega) (Nat.le_refl _)
  rw [gsum_small (M + 1) c 0 (by omega), gsum_small (M + 1) c' 0 (by omega), Nat.zero_add, Nat.zero_add] at h0
  obtain ⟨rfl, hs⟩ := mod_pair hb hb' h0
  refine ⟨rfl, ?_⟩
  generalize hC : c ++ List.replicate (M + 1 - c.length) 0 = C
  generalize hC' : c' ++ List.replicate (M + 1 - c'.length) 0 = C'
  have l1 : C.length = M + 1 := by rw [← hC]; simp; omega
  have l2 : C'.length = M + 1 := by rw [← hC']; simp; omega
  have s1 : C.sum = C'.sum := by rw [← hC, ← hC', List.sum_append, List.sum_append]; simp [hs]
  have hg : ∀ t, 1 ≤ t → t ≤ M → gsum t C 0 = gsum t C' 0 := fun t t1 t2 => by
    have e := h t t1 (by omega)
    rw [hs] at e
    have e2 : gsum t c 0 + c'.sum = gsum t c' 0 + c'.sum := Nat.eq_of_mul_eq_mul_left (show 0 < t by omega) (by omega)
    rw [← hC, ← hC', gsum_append, gsum_append, gsum_zero, gsum_zero]; omega
  have hd := drops_eq l1 l2 hg M (Nat.le_refl _)
  rw [show M + 1 - M = 1 by omega] at hd
  match C, C', l1, l2, hd, s1 with
  | x :: l, y :: m, _, _, hd, s1 =>
    have hd' : l = m := hd
    subst hd'
    rw [List.sum_cons, List.sum_cons] at s1
    rw [show x = y by omega]
theorem trim_eq {c c' : List Nat} {m : Nat} (h1 : c.length ≤ m) (h2 : c'.length ≤ m) (g1 : ∀ k, k + 1 = c.length → c.getD k 0 ≠ 0) (g2 : ∀ k, k + 1 = c'.length → c'.getD k 0 ≠ 0)
    (h : c ++ List.replicate (m - c.length) 0 = c' ++ List.replicate (m - c'.length) 0) : c = c' := by
  have key : ∀ {a a' : List Nat}, a'.length ≤ m → (∀ k, k + 1 = a'.length → a'.getD k 0 ≠ 0) → a ++ List.replicate (m - a.length) 0 = a' ++ List.replicate (m - a'.length) 0 → ¬ a.length < a'.length := fun {a a'} l2 g e q => by
    have e2 := congrArg (fun l : List Nat => l.getD (a'.length - 1) 0) e
    simp only [List.getD_eq_getElem?_getD] at e2
    rw [List.getElem?_append_right (by omega), List.getElem?_append_left (by omega)] at e2
    have := g (a'.length - 1) (by omega)
    rw [List.getD_eq_getElem?_getD, ← e2] at this
    apply this
    rw [List.getElem?_replicate]
    split <;> rfl
  have q1 := key h2 g2 h
  have q2 := key h1 g1 h.symm
  exact (List.append_inj h (by omega)).1
theorem lvl_gsum {w : WS} (g : Good w) {ts : Nat} (h : 1 ≤ ts) : lvl w ts = w.b + ts * (gsum ts w.count 0 + w.count.sum) := by
  unfold lvl; rw [ilv_gsum h, g.sum]
theorem same_lead {r q : List Nat} {u v : WS} {M : Nat} (h1 : r ≠ []) (h2 : q ≠ []) (k1 : LeadOk r u) (k2 : LeadOk q v) (m1 : mxR r ≤ M) (m2 : mxR q ≤ M) (h : ∀ ts, 1 ≤ ts → ts ≤ M + 1 → lvl u ts = lvl v ts) : u.count = v.count ∧ u.b = v.b := by
  obtain ⟨a1, a2⟩ := lead_bounds h1 k1
  obtain ⟨b1, b2⟩ := lead_bounds h2 k2
  obtain ⟨e1, e2⟩ := pads_eq (c := u.count) (c' := v.count) (b := u.b) (b' := v.b) (M := M) (by omega) (by omega) (by omega) (by omega) fun ts t1 t2 => by
    rw [← lvl_gsum k1.good t1, ← lvl_gsum k2.good t1]; exact h ts t1 t2
  exact ⟨trim_eq (by omega) (by omega) k1.good.last k2.good.last e2, e1⟩
theorem lead_same {u v : WS} (g1 : Good u) (g2 : Good v) (h1 : u.count = v.count) (h2 : u.b = v.b) {ts : Nat} (h : 1 ≤ ts) : lvl u ts = lvl v ts := by
  rw [lvl_gsum g1 h, lvl_gsum g2 h, h1, h2]
/-! less -/
theorem simple_lvl {w : WS} (g : Good w) (hs : w.count.length ≤ 1) {ts : Nat} (h : 1 ≤ ts) : lvl w ts = w.b + ts * w.nt := by
  rw [lvl_gsum g h, gsum_small ts w.count 0 (by omega), Nat.zero_add, g.sum]
theorem less_simple {b b' t t' M : Nat} (hn : b + 1 * t < b' + 1 * t') (hb' : b' ≤ M) : (t ≤ t') ↔ ∀ ts, 1 ≤ ts → ts ≤ M + 1 → b + ts * t < b' + ts * t' := by
  constructor
  · intro h ts h1 _
    obtain ⟨k, rfl⟩ := Nat.exists_eq_add_of_le h1
    have := Nat.mul_le_mul_left k h
    rw [Nat.add_mul, Nat.add_mul]; omega
  · intro h
    rcases Nat.lt_or_ge t' t with q | q
    · exfalso
      have h2 := h (M + 1) (by omega) (Nat.le_refl _)
      have h3 : (M + 1) * (t' + 1) ≤ (M + 1) * t := Nat.mul_le_mul_left _ q
      rw [Nat.mul_add] at h3
      omega
    · exact q
end Mine

namespace Mine
/-! law 1: a row of a unit whose first sign stands in it once -/
def headOnce : List Nat → Bool
  | [] => false
  | h :: t => !t.contains h
theorem head_at {U : List Nat} (hU : headOnce U = true) {i : Nat} (hi : i < U.length) (e : U[i]? = U[0]?) : i = 0 := by
  cases U with
  | nil => cases hU
  | cons h t =>
    cases i with
    | zero => rfl
    | succ i =>
      exfalso
      have h2 : t[i]? = some h := by simpa using e
      have := List.mem_of_getElem? h2
      unfold headOnce at hU
      simp [this] at hU
theorem head_len {U : List Nat} (hU : headOnce U = true) : 1 ≤ U.length := by
  cases U with
  | nil => cases hU
  | cons h t => simp
section
variable {U : List Nat} {m : Nat}
theorem at_front (hU : headOnce U = true) {f cut i : Nat} (hf : 1 ≤ f) (hfm : f ≤ m * U.length) (hc : cut ≤ m * U.length) (hi : i + f ≤ cut) :
    atL ((repL m U).take cut) ((repL m U).take f) i = decide (i % U.length = 0) := by
  have hl : ((repL m U).take f).length = f := by rw [List.length_take, rep_len]; omega
  have hpos := head_len hU
  unfold atL
  rw [hl]
  by_cases e : i % U.length = 0
  · rw [decide_eq_true e, beq_iff_eq]
    apply List.ext_getElem?
    intro j
    rcases Nat.lt_or_ge j f with q | q
    · rw [List.getElem?_take_of_lt q, List.getElem?_take_of_lt q, List.getElem?_drop, List.getElem?_take_of_lt (by omega), rep_get (by omega), rep_get (by omega)]
      congr 1
      rw [Nat.add_mod, e, Nat.zero_add, Nat.mod_mod]
    · rw [List.getElem?_eq_none (by rw [List.length_take]; omega), List.getElem?_eq_none (by rw [List.length_take]; omega)]
  · rw [decide_eq_false e]
    apply Bool.eq_false_iff.mpr
    intro h
    rw [beq_iff_eq] at h
    have h0 := congrArg (fun l : List Nat => l[0]?) h
    simp only [List.getElem?_take_of_lt hf, List.getElem?_drop, Nat.add_zero] at h0
    rw [List.getElem?_take_of_lt (by omega), rep_get (by omega), rep_get (by omega), Nat.zero_mod] at h0
    exact e (head_at hU (Nat.mod_lt _ (by omega)) h0)
/-- got is the row, from the o-th sign on -/
structure Got (U : List Nat) (m o : Nat) (got : List Nat) : Prop where
  hU : headOnce U = true
  at' : ∀ f i, 1 ≤ f → f ≤ m * U.length → i + f ≤ got.length → atL got ((repL m U).take f) i = decide ((i + o) % U.length = 0)
theorem got0 (hU : headOnce U = true) {cut : Nat} (hc : cut ≤ m * U.length) : Got U m 0 ((repL m U).take cut) ∧ ((repL m U).take cut).length = cut := by
  have hl : ((repL m U).take cut).length = cut := by rw [List.length_take, rep_len]; omega
  exact ⟨⟨hU, fun f i h1 h2 h3 => at_front hU h1 h2 hc (by omega)⟩, hl⟩
theorem got1 (hU : headOnce U = true) {cut : Nat} (hc : cut ≤ m * U.length) (h1 : 1 ≤ cut) : Got U m 1 (((repL m U).take cut).drop 1) ∧ (((repL m U).take cut).drop 1).length = cut - 1 := by
  have hl : (((repL m U).take cut).drop 1).length = cut - 1 := by rw [List.length_drop, List.length_take, rep_len]; omega
  refine ⟨⟨hU, fun f i h1 h2 h3 => ?_⟩, hl⟩
  rw [← at_front hU h1 h2 hc (i := i + 1) (by omega)]
  unfold atL
  rw [List.drop_drop, Nat.add_comm 1 i]
theorem find_front {o : Nat} {got : List Nat} (g : Got U m o got) {lo hi K f : Nat} (hf : 1 ≤ f) (hfm : f ≤ m * U.length) (hh : hi ≤ got.length) (hK : K % U.length = 0) (hlo : lo + o ≤ K) (hmin : ∀ i, lo ≤ i → (i + o) % U.length = 0 → K ≤ i + o) :
    findL got ((repL m U).take f) lo hi = if K + f ≤ hi + o then some (K - o) else none := by
  have hl : ((repL m U).take f).length = f := by rw [List.length_take, rep_len]; omega
  split
  · rename_i h
    refine find_at (by omega) (by rw [hl]; omega) ?_ fun j h1 h2 => ?_
    · rw [g.at' f (K - o) hf hfm (by omega), show K - o + o = K by omega]; exact decide_eq_true hK
    · rw [g.at' f j hf hfm (by omega)]
      exact decide_eq_false fun z => by have := hmin j h1 z; omega
  · rename_i h
    refine find_no fun j h1 h2 => ?_
    rw [hl] at h2
    rw [g.at' f j hf hfm (by omega)]
    exact decide_eq_false fun z => by have := hmin j h1 z; omega
theorem next_facts {ts x : Nat} (h : 1 ≤ ts) : x < (x / ts + 1) * ts ∧ ((x / ts + 1) * ts) % ts = 0 ∧ ∀ i, x < i → i % ts = 0 → (x / ts + 1) * ts ≤ i := by
  have e : nx ts x 0 = (x / ts + 1) * ts := by unfold nx; rw [if_neg (by omega)]; omega
  obtain ⟨f1, f2, f3⟩ := nx_facts (c := x) (s := 0) (sz := ts) (by omega)
  rw [e] at f1 f3
  exact ⟨f1, f3, fun i h1 h2 => by rw [← e]; exact nx_least (by omega) h1 h2⟩
theorem colR_ge {ts : Nat} (h : 1 ≤ ts) : ∀ (runs : List Nat) (k : Nat), k ≤ colR ts runs k
  | [], k => Nat.le_refl _
  | [r], k => Nat.le_add_right _ _
  | r :: q :: l, k => by
    have ih := colR_ge h (q :: l) (((k + r) / ts + 1) * ts)
    have := (next_facts (x := k + r) h).1
    show k ≤ colR ts (q :: l) (((k + r) / ts + 1) * ts)
    omega
theorem colR_ge2 {ts : Nat} (h : 1 ≤ ts) : ∀ (runs : List Nat) (k : Nat), ∀ r ∈ runs, k + r ≤ colR ts runs k
  | [], k, r, hr => by cases hr
  | [x], k, r, hr => by rw [List.mem_singleton.mp hr]; exact Nat.le_refl _
  | x :: q :: l, k, r, hr => by
    have hn := (next_facts (x := k + x) h).1
    show k + r ≤ colR ts (q :: l) (((k + x) / ts + 1) * ts)
    rcases List.mem_cons.mp hr with rfl | hr
    · have := colR_ge h (q :: l) (((k + r) / ts + 1) * ts); omega
    · have := colR_ge2 h (q :: l) (((k + x) / ts + 1) * ts) r hr; omega
theorem colR_shift {ts : Nat} (h : 1 ≤ ts) : ∀ (runs : List Nat) (k : Nat), runs ≠ [] → colR ts runs (k + ts) = colR ts runs k + ts
  | [], k, e => absurd rfl e
  | [r], k, _ => by show k + ts + r = k + r + ts; omega
  | r :: q :: l, k, _ => by
    show colR ts (q :: l) (((k + ts + r) / ts + 1) * ts) = colR ts (q :: l) (((k + r) / ts + 1) * ts) + ts
    rw [← colR_shift h (q :: l) _ (by simp)]
    congr 1
    rw [show k + ts + r = k + r + ts by omega, Nat.add_div_right _ (by omega), Nat.add_mul ((k + r) / ts + 1) 1 ts, Nat.one_mul]
theorem colR_snoc {ts : Nat} (e : Nat) : ∀ (init : List Nat) (k : Nat), init ≠ [] → colR ts (init ++ [e]) k = ((colR ts init k) / ts + 1) * ts + e
  | [], k, h => absurd rfl h
  | [r], k, _ => rfl
  | r :: q :: l, k, _ => colR_snoc e (q :: l) _ (by simp)
def fronts (U : List Nat) (m : Nat) (runs : List Nat) : List (List Nat) := runs.map fun r => (repL m U).take (r + 1)
def tailOk : List (List Nat) → Prop
  | [] => True
  | [[]] => True
  | _ => False
theorem find_nil1 {x : List Nat} {lo hi : Nat} (h : lo ≤ hi) : findL x [] lo hi = some lo := by
  refine find_at (Nat.le_refl _) (by simpa using h) (by simp [atL]) fun j h1 h2 => by omega
theorem tail_true {got : List Nat} {tl : List (List Nat)} (h : tailOk tl) {lo hi : Nat} (hh : lo ≤ hi) : emLoop got tl lo hi = true := by
  match tl, h with
  | [], _ => rfl
  | [[]], _ => simp only [emLoop, find_nil1 hh]
theorem loop_fronts {o : Nat} {got : List Nat} (g : Got U m o got) {tl : List (List Nat)} (ht : tailOk tl) {hi : Nat} (hh : hi ≤ got.length) : ∀ (runs : List Nat) (lo K : Nat), runs ≠ [] → (∀ r ∈ runs, r + 1 ≤ m * U.length) → K % U.length = 0 → lo + o ≤ K → (∀ i, lo ≤ i → (i + o) % U.length = 0 → K ≤ i + o) →
    emLoop got (fronts U m runs ++ tl) lo hi = decide (colR U.length runs K + 1 ≤ hi + o)
  | [], _, _, h, _, _, _, _ => absurd rfl h
  | [r], lo, K, _, hF, hK, hlo, hmin => by
    have hr := hF r (by simp)
    show emLoop got ((repL m U).take (r + 1) :: tl) lo hi = _
    have hl : ((repL m U).take (r + 1)).length = r + 1 := by rw [List.length_take, rep_len]; omega
    rw [emLoop, find_front g (by omega) hr hh hK hlo hmin]
    by_cases q : K + (r + 1) ≤ hi + o
    · rw [if_pos q]
      simp only
      rw [hl, tail_true ht (by omega)]
      exact (decide_eq_true (show K + r + 1 ≤ hi + o by omega)).symm
    · rw [if_neg q]
      exact (decide_eq_false (show ¬ K + r + 1 ≤ hi + o by omega)).symm
  | r :: q :: l, lo, K, _, hF, hK, hlo, hmin => by
    have hr := hF r (by simp)
    have hpos := head_len g.hU
    show emLoop got ((repL m U).take (r + 1) :: (fronts U m (q :: l) ++ tl)) lo hi = _
    have hl : ((repL m U).take (r + 1)).length = r + 1 := by rw [List.length_take, rep_len]; omega
    rw [emLoop, find_front g (by omega) hr hh hK hlo hmin]
    obtain ⟨n1, n2, n3⟩ := next_facts (ts := U.length) (x := K + r) hpos
    by_cases e : K + (r + 1) ≤ hi + o
    · rw [if_pos e]
      simp only
      rw [hl, loop_fronts g ht hh (q :: l) (K - o + (r + 1)) (((K + r) / U.length + 1) * U.length) (by simp) (fun x hx => hF x (List.mem_cons_of_mem _ hx)) n2 (by omega) fun i h1 h2 => n3 (i + o) (by omega) h2]
      rfl
    · rw [if_neg e]
      have := colR_ge hpos (q :: l) (((K + r) / U.length + 1) * U.length)
      exact (decide_eq_false (show ¬ colR U.length (q :: l) (((K + r) / U.length + 1) * U.length) + 1 ≤ hi + o by omega)).symm
theorem getLastD_snoc {α : Type} (l : List α) (x d : α) : (l ++ [x]).getLastD d = x := by
  rw [List.getLastD_eq_getLast?]; simp
/-- the pieces, dots behind -/
theorem em1 (hU : headOnce U = true) {runs : List Nat} (hr : runs ≠ []) (hF : ∀ r ∈ runs, r + 1 ≤ m * U.length) {cut : Nat} (hc : cut ≤ m * U.length) : emW ((repL m U).take cut) (fronts U m runs ++ [[]]) = decide (colR U.length runs 0 < cut) := by
  obtain ⟨g, hl⟩ := got0 (m := m) hU hc
  have hpos := head_len hU
  match runs, hr with
  | r :: rest, _ =>
    have hr1 := hF r (by simp)
    have hl1 : ((repL m U).take (r + 1)).length = r + 1 := by rw [List.length_take, rep_len]; omega
    show emW _ ((repL m U).take (r + 1) :: (fronts U m rest ++ [[]])) = _
    unfold emW
    rw [List.headD_cons, List.tail_cons, hl1, if_pos (by omega), hl]
    have hge := colR_ge2 hpos (r :: rest) 0 r (by simp)
    by_cases e : r + 1 ≤ cut
    · rw [g.at' (r + 1) 0 (by omega) hr1 (by rw [hl]; omega), decide_eq_true e, Nat.zero_mod, decide_eq_true rfl, if_pos (by rfl)]
      unfold emE
      rw [getLastD_snoc, if_neg (by simp), hl]
      unfold emC
      rw [if_neg (by omega)]
      cases rest with
      | nil =>
        show emLoop _ [[]] _ _ = _
        rw [tail_true (tl := [[]]) trivial e]
        exact (decide_eq_true (show 0 + r < cut by omega)).symm
      | cons q l =>
        obtain ⟨n1, n2, n3⟩ := next_facts (ts := U.length) (x := 0 + r) hpos
        rw [loop_fronts g (tl := [[]]) trivial (hi := cut) (by omega) (q :: l) (r + 1) (((0 + r) / U.length + 1) * U.length) (by simp) (fun x hx => hF x (List.mem_cons_of_mem _ hx)) n2 (by omega) fun i h1 h2 => n3 (i + 0) (by omega) h2]
        rfl
    · rw [decide_eq_false e]
      rw [Bool.false_and, if_neg (by decide)]
      exact (decide_eq_false (by omega)).symm
/-- dots ahead, the last piece at the end -/
theorem em2 (hU : headOnce U = true) {runs : List Nat} (hr : runs ≠ []) (hF : ∀ r ∈ runs, r + 1 ≤ m * U.length) {cut : Nat} (hc : cut ≤ m * U.length) : emW ((repL m U).take cut) ([] :: fronts U m runs) = (decide (colR U.length runs 0 < cut) && decide ((cut - colR U.length runs 0 - 1) % U.length = 0)) := by
  obtain ⟨g, hl⟩ := got0 (m := m) hU hc
  have hpos := head_len hU
  obtain ⟨init, e, rfl⟩ : ∃ init e, runs = init ++ [e] := ⟨runs.dropLast, runs.getLast hr, (List.dropLast_concat_getLast hr).symm⟩
  have he := hF e (by simp)
  have hl1 : ((repL m U).take (e + 1)).length = e + 1 := by rw [List.length_take, rep_len]; omega
  have hfr : fronts U m (init ++ [e]) = fronts U m init ++ [(repL m U).take (e + 1)] := by simp [fronts]
  rw [hfr]
  unfold emW
  rw [List.headD_cons, if_neg (by simp)]
  unfold emE
  have hlast : ([] :: (fronts U m init ++ [(repL m U).take (e + 1)])).getLastD [] = (repL m U).take (e + 1) := by
    rw [← List.cons_append, getLastD_snoc]
  have hdl : ([] :: (fronts U m init ++ [(repL m U).take (e + 1)])).dropLast = [] :: fronts U m init := by
    rw [← List.cons_append, List.dropLast_concat]
  rw [hlast, hdl, hl1, if_pos (by omega), hl]
  have hcol : e ≤ colR U.length (init ++ [e]) 0 := by have := colR_ge2 hpos (init ++ [e]) 0 e (by simp); omega
  by_cases q : e + 1 ≤ cut
  · rw [g.at' (e + 1) (cut - (e + 1)) (by omega) he (by rw [hl]; omega), decide_eq_true q, Bool.true_and, Nat.add_zero]
    obtain ⟨K, hK, hc1, hc2⟩ : ∃ K, K % U.length = 0 ∧ colR U.length (init ++ [e]) 0 = K + e ∧ ∀ ep, ep % U.length = 0 → emC ((repL m U).take cut) ([] :: fronts U m init) 0 ep = decide (K ≤ ep) ∨ cut < ep := by
      rcases List.eq_nil_or_concat init with rfl | ⟨i2, x, rfl⟩
      · refine ⟨0, Nat.zero_mod _, rfl, fun ep hep => ?_⟩
        left
        unfold emC
        rw [if_neg (by omega)]
        show emLoop _ [[]] 0 ep = _
        rw [tail_true (tl := [[]]) trivial (Nat.zero_le _)]
        exact (decide_eq_true (Nat.zero_le _)).symm
      · have hne : i2 ++ [x] ≠ [] := by simp
        have hne' : i2.concat x ≠ [] := by simp
        obtain ⟨n1, n2, n3⟩ := next_facts (ts := U.length) (x := colR U.length (i2.concat x) 0) hpos
        refine ⟨_, n2, colR_snoc e (i2.concat x) 0 hne', fun ep hep => ?_⟩
        rcases Nat.lt_or_ge cut ep with q2 | q2
        · exact .inr q2
        · left
          unfold emC
          rw [if_neg (by omega)]
          rw [emLoop, find_nil1 (Nat.zero_le _)]
          simp only [List.length_nil]
          have := loop_fronts g (tl := []) trivial (hi := ep) (by omega) (i2.concat x) 0 0 hne' (fun y hy => hF y (List.mem_append_left _ hy)) (Nat.zero_mod _) (by omega) fun i _ _ => Nat.zero_le _
          rw [List.append_nil] at this
          rw [Nat.zero_add, this]
          apply decide_eq_decide.mpr
          constructor
          · intro h
            exact n3 ep (by omega) hep
          · intro h
            omega
    rw [hc1]
    by_cases hm : (cut - (e + 1)) % U.length = 0
    · rw [decide_eq_true hm, if_pos rfl]
      rcases hc2 _ hm with h | h
      · rw [h]
        by_cases hk : K ≤ cut - (e + 1)
        · rw [decide_eq_true hk, decide_eq_true (show K + e < cut by omega), Bool.true_and]
          refine (decide_eq_true ?_).symm
          rw [show cut - (K + e) - 1 = (cut - (e + 1)) - K by omega]
          obtain ⟨a, ha⟩ := Nat.dvd_of_mod_eq_zero hm
          obtain ⟨b, hb⟩ := Nat.dvd_of_mod_eq_zero hK
          rw [ha, hb, ← Nat.mul_sub, Nat.mul_mod_right]
        · rw [decide_eq_false hk, decide_eq_false (show ¬ K + e < cut by omega)]; rfl
      · omega
    · rw [decide_eq_false hm, if_neg (by decide)]
      by_cases hk : K + e < cut
      · rw [decide_eq_true hk, Bool.true_and]
        refine (decide_eq_false fun z => hm ?_).symm
        rw [show cut - (K + e) - 1 = (cut - (e + 1)) - K by omega] at z
        obtain ⟨a, ha⟩ := Nat.dvd_of_mod_eq_zero z
        obtain ⟨b, hb⟩ := Nat.dvd_of_mod_eq_zero hK
        rw [show cut - (e + 1) = U.length * a + U.length * b by omega, ← Nat.mul_add, Nat.mul_mod_right]
      · rw [decide_eq_false hk]; rfl
  · rw [decide_eq_false q, Bool.false_and, if_neg (by decide), decide_eq_false (by omega)]; rfl
/-- dots ahead and behind, the row's first sign taken off -/
theorem em3 (hU : headOnce U = true) {runs : List Nat} (hr : runs ≠ []) (hF : ∀ r ∈ runs, r + 1 ≤ m * U.length) {cut : Nat} (hc : cut ≤ m * U.length) (h1 : 1 ≤ cut) : emW (((repL m U).take cut).drop 1) ([] :: (fronts U m runs ++ [[]])) = decide (colR U.length runs 0 + U.length < cut) := by
  obtain ⟨g, hl⟩ := got1 (m := m) hU hc h1
  have hpos := head_len hU
  unfold emW
  rw [List.headD_cons, if_neg (by simp)]
  unfold emE
  rw [← List.cons_append, getLastD_snoc, if_neg (by simp), hl]
  unfold emC
  rw [if_neg (by omega), List.cons_append, emLoop, find_nil1 (Nat.zero_le _)]
  simp only [List.length_nil]
  have h2 : ∀ i, 0 ≤ i → (i + 1) % U.length = 0 → U.length ≤ i + 1 := fun i _ h => Nat.le_of_dvd (by omega) (Nat.dvd_of_mod_eq_zero h)
  rw [Nat.zero_add, loop_fronts g (tl := [[]]) trivial (hi := cut - 1) (by omega) runs 0 U.length hr hF (Nat.mod_self _) (by omega) h2]
  have := colR_shift hpos runs 0 hr
  rw [Nat.zero_add] at this
  rw [this]
  apply decide_eq_decide.mpr
  omega
end
end Mine

namespace Mine
/-! the head by hand: the top's run in one piece, the objects that the law needs -/
noncomputable abbrev pw : Program := PySem.Challenge.pw_rl0116_01
noncomputable abbrev rwo : RowW := OpenRow.toRowW (OpenLaw.row PySem.Challenge.rw_rl0116_01)
noncomputable def vw : Program := PySem.W.view pw [1, 3, 4, 6, 7, 8, 9, 10, 11, 13, 14, 15, 16, 17, 18, 19, 20, 21]
noncomputable def lo : List Str := [Str.ofString "Whitespace"]
noncomputable def fnAt (i : Nat) : Option (Arguments × List Stmt × Scope) := match pw.main.body[i]? with
  | some (.FunctionDef _ a b _ _ _ s _ _ _) => some (a, b, s)
  | _ => none
noncomputable def meAt (i j : Nat) : Option (Arguments × List Stmt × Scope) := match pw.main.body[i]? with
  | some (.ClassDef _ _ _ b _ _ _ _ _ _ _) => (match b[j]? with
    | some (.FunctionDef _ a b _ _ _ s _ _ _) => some (a, b, s)
    | _ => none)
  | _ => none
noncomputable def fO (nm ql : Str) (q : Arguments × List Stmt × Scope) (md : Value) (c : Addr) : Obj := { cls := .type "function", data := .func { name := nm, qualname := ql, params := q.1, body := .stmts q.2.1, scope := q.2.2, globals := 3, closure := [], defaults := .none, kwdefaults := .none, pyModule := md, code := .ref c } }
noncomputable def dO (P : Params) (cl : Value) (es : List (String × Tok × Value)) (n : Nat) : Obj := { cls := cl, data := .dict (es.map fun e => ⟨PyData.keyHash P (Str.ofString e.1), .str (Str.ofString e.1) e.2.1, e.2.2⟩).toArray n }
noncomputable def o2 (P : Params) : Obj := dO P .none [] 0
noncomputable def o3 (P : Params) : Obj := dO P (.type "dict") [("__name__", 165, (.str (Str.ofString "law_rl0116_01") 355)), ("__doc__", 166, .none), ("__package__", 167, .none), ("__loader__", 168, (.builtin "__main__.__loader__#opaque")), ("__spec__", 169, .none), ("__annotations__", 170, (.ref 6)), ("__builtins__", 171, (.ref 4)), ("__file__", 173, (.str (Str.ofString "/claim/cut.py") 172)), ("__cached__", 174, .none), ("Whitespace", 294, (.ref 76)), ("ELLIPSIS_MARKER", 298, (.str (Str.ofString "...") 297)), ("_ellipsis_match", 310, (.ref 87)), ("_raise_serialization_error", 319, (.ref 94)), ("_escape_cdata", 326, (.ref 101)), ("_escape_attrib", 333, (.ref 108)), ("_escape_attrib_html", 340, (.ref 115)), ("_escape_cdata_c14n", 347, (.ref 122)), ("_escape_attrib_c14n", 354, (.ref 129)), ("_law_hand", 364, (.ref 136)), ("_law_told", 370, (.ref 141)), ("_law_runs", 377, (.ref 148)), ("_law_other", 383, (.ref 153)), ("_law_lead", 389, (.ref 158)), ("_law_pick", 399, (.ref 165)), ("_law_fits", 405, (.ref 170)), ("_law_verdicts", 411, (.ref 175)), ("law", 417, (.ref 180))] 27
noncomputable def o30 : Obj := { cls := (.type "code"), data := .fields #[(.str (Str.ofString "__init__") 206), (.str (Str.ofString "Whitespace.__init__") 207), (.str (Str.ofString "/claim/cut.py") 208), (.int 5 0), (.int 2 0), (.int 0 0), (.int 0 0), (.int 3 0), (.ref 25), (.bool true), (.int 181 0), (.ref 26), .none, (.ref 27), (.ref 28), (.ref 29), (.int 218 0), (.int 5 0), (.str (Str.ofString "/claim/cut.py") 219)] }
noncomputable def q31 : {x // meAt 1 1 = some x} := ⟨_, rfl⟩
noncomputable def o31 : Obj := fO (Str.ofString "__init__") (Str.ofString "Whitespace.__init__") q31.1 (.str (Str.ofString "cpy313.tabnanny") 187) 30
noncomputable def o37 : Obj := { cls := (.type "code"), data := .fields #[(.str (Str.ofString "longest_run_of_spaces") 221), (.str (Str.ofString "Whitespace.longest_run_of_spaces") 222), (.str (Str.ofString "/claim/cut.py") 223), (.int 28 0), (.int 1 0), (.int 0 0), (.int 0 0), (.int 3 0), (.ref 32), (.bool true), (.int 181 0), (.ref 33), .none, (.ref 34), (.ref 35), (.ref 36), (.int 227 0), (.int 28 0), (.str (Str.ofString "/claim/cut.py") 228)] }
noncomputable def q38 : {x // meAt 1 2 = some x} := ⟨_, rfl⟩
noncomputable def o38 : Obj := fO (Str.ofString "longest_run_of_spaces") (Str.ofString "Whitespace.longest_run_of_spaces") q38.1 (.str (Str.ofString "cpy313.tabnanny") 187) 37
noncomputable def o44 : Obj := { cls := (.type "code"), data := .fields #[(.str (Str.ofString "indent_level") 230), (.str (Str.ofString "Whitespace.indent_level") 231), (.str (Str.ofString "/claim/cut.py") 232), (.int 32 0), (.int 2 0), (.int 0 0), (.int 0 0), (.int 3 0), (.ref 39), (.bool true), (.int 181 0), (.ref 40), .none, (.ref 41), (.ref 42), (.ref 43), (.int 239 0), (.int 32 0), (.str (Str.ofString "/claim/cut.py") 240)] }
noncomputable def q45 : {x // meAt 1 3 = some x} := ⟨_, rfl⟩
noncomputable def o45 : Obj := fO (Str.ofString "indent_level") (Str.ofString "Whitespace.indent_level") q45.1 (.str (Str.ofString "cpy313.tabnanny") 187) 44
noncomputable def o51 : Obj := { cls := (.type "code"), data := .fields #[(.str (Str.ofString "equal") 242), (.str (Str.ofString "Whitespace.equal") 243), (.str (Str.ofString "/claim/cut.py") 244), (.int 39 0), (.int 2 0), (.int 0 0), (.int 0 0), (.int 3 0), (.ref 46), (.bool true), (.int 181 0), (.ref 47), .none, (.ref 48), (.ref 49), (.ref 50), (.int 247 0), (.int 39 0), (.str (Str.ofString "/claim/cut.py") 248)] }
noncomputable def q52 : {x // meAt 1 4 = some x} := ⟨_, rfl⟩
noncomputable def o52 : Obj := fO (Str.ofString "equal") (Str.ofString "Whitespace.equal") q52.1 (.str (Str.ofString "cpy313.tabnanny") 187) 51
noncomputable def o58 : Obj := { cls := (.type "code"), data := .fields #[(.str (Str.ofString "not_equal_witness") 250), (.str (Str.ofString "Whitespace.not_equal_witness") 251), (.str (Str.ofString "/claim/cut.py") 252), (.int 42 0), (.int 2 0), (.int 0 0), (.int 0 0), (.int 3 0), (.ref 53), (.bool true), (.int 181 0), (.ref 54), .none, (.ref 55), (.ref 56), (.ref 57), (.int 258 0), (.int 42 0), (.str (Str.ofString "/claim/cut.py") 259)] }
noncomputable def q59 : {x // meAt 1 5 = some x} := ⟨_, rfl⟩
noncomputable def o59 : Obj := fO (Str.ofString "not_equal_witness") (Str.ofString "Whitespace.not_equal_witness") q59.1 (.str (Str.ofString "cpy313.tabnanny") 187) 58
noncomputable def o65 : Obj := { cls := (.type "code"), data := .fields #[(.str (Str.ofString "less") 261), (.str (Str.ofString "Whitespace.less") 262), (.str (Str.ofString "/claim/cut.py") 263), (.int 50 0), (.int 2 0), (.int 0 0), (.int 0 0), (.int 3 0), (.ref 60), (.bool true), (.int 181 0), (.ref 61), .none, (.ref 62), (.ref 63), (.ref 64), (.int 268 0), (.int 50 0), (.str (Str.ofString "/claim/cut.py") 269)] }
noncomputable def q66 : {x // meAt 1 6 = some x} := ⟨_, rfl⟩
noncomputable def o66 : Obj := fO (Str.ofString "less") (Str.ofString "Whitespace.less") q66.1 (.str (Str.ofString "cpy313.tabnanny") 187) 65
noncomputable def o72 : Obj := { cls := (.type "code"), data := .fields #[(.str (Str.ofString "not_less_witness") 271), (.str (Str.ofString "Whitespace.not_less_witness") 272), (.str (Str.ofString "/claim/cut.py") 273), (.int 61 0), (.int 2 0), (.int 0 0), (.int 0 0), (.int 3 0), (.ref 67), (.bool true), (.int 181 0), (.ref 68), .none, (.ref 69), (.ref 70), (.ref 71), (.int 279 0), (.int 61 0), (.str (Str.ofString "/claim/cut.py") 280)] }
noncomputable def q73 : {x // meAt 1 7 = some x} := ⟨_, rfl⟩
noncomputable def o73 : Obj := fO (Str.ofString "not_less_witness") (Str.ofString "Whitespace.not_less_witness") q73.1 (.str (Str.ofString "cpy313.tabnanny") 187) 72
noncomputable def o75 (P : Params) : Obj := dO P (.type "dict") [("__module__", 196, (.str (Str.ofString "cpy313.tabnanny") 187)), ("__firstlineno__", 200, (.int 2 199)), ("S", 204, (.str (Str.ofString " ") 202)), ("T", 205, (.str (Str.ofString "\t") 203)), ("__init__", 220, (.ref 31)), ("longest_run_of_spaces", 229, (.ref 38)), ("indent_level", 241, (.ref 45)), ("equal", 249, (.ref 52)), ("not_equal_witness", 260, (.ref 59)), ("less", 270, (.ref 66)), ("not_less_witness", 281, (.ref 73)), ("__static_attributes__", 287, (.ref 74)), ("__dict__", 289, (.ref 77)), ("__weakref__", 291, (.ref 78)), ("__doc__", 292, .none)] 4
noncomputable def o76 : Obj := { cls := (.type "type"), data := .cls { name := (Str.ofString "Whitespace"), bases := [(.type "object")], mro := [(.ref 76), (.type "object")], ns := 75, qualname := (Str.ofString "Whitespace") }, slots := #[none, none, some (.str (Str.ofString "Whitespace") 189), some (.str (Str.ofString "Whitespace") 197), some (.builtin "object.__new__"), some (.bool true)] }
noncomputable def o77 : Obj := { cls := (.type "getset_descriptor"), data := .fields #[(.str (Str.ofString "__dict__") 288), (.ref 76), (.builtin "function.__dict__"), (.builtin "function.__dict__#set")] }
noncomputable def o78 : Obj := { cls := (.type "getset_descriptor"), data := .fields #[(.str (Str.ofString "__weakref__") 290), (.ref 76), (.builtin "ExceptionGroup.__weakref__"), .none] }
noncomputable def o86 : Obj := { cls := (.type "code"), data := .fields #[(.str (Str.ofString "_ellipsis_match") 299), (.str (Str.ofString "_ellipsis_match") 300), (.str (Str.ofString "/claim/cut.py") 301), (.int 70 0), (.int 2 0), (.int 0 0), (.int 0 0), (.int 3 0), (.ref 81), (.bool true), (.int 181 0), (.ref 82), .none, (.ref 83), (.ref 84), (.ref 85), (.int 308 0), (.int 70 0), (.str (Str.ofString "/claim/cut.py") 309)] }
noncomputable def q87 : {x // fnAt 4 = some x} := ⟨_, rfl⟩
noncomputable def o87 : Obj := fO (Str.ofString "_ellipsis_match") (Str.ofString "_ellipsis_match") q87.1 (.str (Str.ofString "cpy313.doctest") 295) 86
noncomputable def o93 : Obj := { cls := (.type "code"), data := .fields #[(.str (Str.ofString "_raise_serialization_error") 313), (.str (Str.ofString "_raise_serialization_error") 314), (.str (Str.ofString "/claim/cut.py") 315), (.int 99 0), (.int 1 0), (.int 0 0), (.int 0 0), (.int 3 0), (.ref 88), (.bool true), (.int 181 0), (.ref 89), .none, (.ref 90), (.ref 91), (.ref 92), (.int 317 0), (.int 99 0), (.str (Str.ofString "/claim/cut.py") 318)] }
noncomputable def q94 : {x // fnAt 6 = some x} := ⟨_, rfl⟩
noncomputable def o94 : Obj := fO (Str.ofString "_raise_serialization_error") (Str.ofString "_raise_serialization_error") q94.1 (.str (Str.ofString "cpy313.xml.etree.ElementTree") 311) 93
noncomputable def o100 : Obj := { cls := (.type "code"), data := .fields #[(.str (Str.ofString "_escape_cdata") 320), (.str (Str.ofString "_escape_cdata") 321), (.str (Str.ofString "/claim/cut.py") 322), (.int 101 0), (.int 1 0), (.int 0 0), (.int 0 0), (.int 3 0), (.ref 95), (.bool true), (.int 181 0), (.ref 96), .none, (.ref 97), (.ref 98), (.ref 99), (.int 324 0), (.int 101 0), (.str (Str.ofString "/claim/cut.py") 325)] }
noncomputable def q101 : {x // fnAt 7 = some x} := ⟨_, rfl⟩
noncomputable def o101 : Obj := fO (Str.ofString "_escape_cdata") (Str.ofString "_escape_cdata") q101.1 (.str (Str.ofString "cpy313.xml.etree.ElementTree") 311) 100
noncomputable def o107 : Obj := { cls := (.type "code"), data := .fields #[(.str (Str.ofString "_escape_attrib") 327), (.str (Str.ofString "_escape_attrib") 328), (.str (Str.ofString "/claim/cut.py") 329), (.int 112 0), (.int 1 0), (.int 0 0), (.int 0 0), (.int 3 0), (.ref 102), (.bool true), (.int 181 0), (.ref 103), .none, (.ref 104), (.ref 105), (.ref 106), (.int 331 0), (.int 112 0), (.str (Str.ofString "/claim/cut.py") 332)] }
noncomputable def q108 : {x // fnAt 8 = some x} := ⟨_, rfl⟩
noncomputable def o108 : Obj := fO (Str.ofString "_escape_attrib") (Str.ofString "_escape_attrib") q108.1 (.str (Str.ofString "cpy313.xml.etree.ElementTree") 311) 107
noncomputable def o114 : Obj := { cls := (.type "code"), data := .fields #[(.str (Str.ofString "_escape_attrib_html") 334), (.str (Str.ofString "_escape_attrib_html") 335), (.str (Str.ofString "/claim/cut.py") 336), (.int 131 0), (.int 1 0), (.int 0 0), (.int 0 0), (.int 3 0), (.ref 109), (.bool true), (.int 181 0), (.ref 110), .none, (.ref 111), (.ref 112), (.ref 113), (.int 338 0), (.int 131 0), (.str (Str.ofString "/claim/cut.py") 339)] }
noncomputable def q115 : {x // fnAt 9 = some x} := ⟨_, rfl⟩
noncomputable def o115 : Obj := fO (Str.ofString "_escape_attrib_html") (Str.ofString "_escape_attrib_html") q115.1 (.str (Str.ofString "cpy313.xml.etree.ElementTree") 311) 114
noncomputable def o121 : Obj := { cls := (.type "code"), data := .fields #[(.str (Str.ofString "_escape_cdata_c14n") 341), (.str (Str.ofString "_escape_cdata_c14n") 342), (.str (Str.ofString "/claim/cut.py") 343), (.int 142 0), (.int 1 0), (.int 0 0), (.int 0 0), (.int 3 0), (.ref 116), (.bool true), (.int 181 0), (.ref 117), .none, (.ref 118), (.ref 119), (.ref 120), (.int 345 0), (.int 142 0), (.str (Str.ofString "/claim/cut.py") 346)] }
noncomputable def q122 : {x // fnAt 10 = some x} := ⟨_, rfl⟩
noncomputable def o122 : Obj := fO (Str.ofString "_escape_cdata_c14n") (Str.ofString "_escape_cdata_c14n") q122.1 (.str (Str.ofString "cpy313.xml.etree.ElementTree") 311) 121
noncomputable def o128 : Obj := { cls := (.type "code"), data := .fields #[(.str (Str.ofString "_escape_attrib_c14n") 348), (.str (Str.ofString "_escape_attrib_c14n") 349), (.str (Str.ofString "/claim/cut.py") 350), (.int 155 0), (.int 1 0), (.int 0 0), (.int 0 0), (.int 3 0), (.ref 123), (.bool true), (.int 181 0), (.ref 124), .none, (.ref 125), (.ref 126), (.ref 127), (.int 352 0), (.int 155 0), (.str (Str.ofString "/claim/cut.py") 353)] }
noncomputable def q129 : {x // fnAt 11 = some x} := ⟨_, rfl⟩
noncomputable def o129 : Obj := fO (Str.ofString "_escape_attrib_c14n") (Str.ofString "_escape_attrib_c14n") q129.1 (.str (Str.ofString "cpy313.xml.etree.ElementTree") 311) 128
noncomputable def o135 : Obj := { cls := (.type "code"), data := .fields #[(.str (Str.ofString "_law_hand") 357), (.str (Str.ofString "_law_hand") 358), (.str (Str.ofString "/claim/cut.py") 359), (.int 173 0), (.int 2 0), (.int 0 0), (.int 0 0), (.int 3 0), (.ref 130), (.bool true), (.int 181 0), (.ref 131), .none, (.ref 132), (.ref 133), (.ref 134), (.int 362 0), (.int 173 0), (.str (Str.ofString "/claim/cut.py") 363)] }
noncomputable def q136 : {x // fnAt 13 = some x} := ⟨_, rfl⟩
noncomputable def o136 : Obj := fO (Str.ofString "_law_hand") (Str.ofString "_law_hand") q136.1 (.str (Str.ofString "law_rl0116_01") 355) 135
noncomputable def o140 : Obj := { cls := (.type "code"), data := .fields #[(.str (Str.ofString "_law_told") 365), (.str (Str.ofString "_law_told") 366), (.str (Str.ofString "/claim/cut.py") 367), (.int 185 0), (.int 2 0), (.int 0 0), (.int 0 0), (.int 3 0), (.ref 137), (.bool true), (.int 181 0), (.ref 138), .none, .none, .none, (.ref 139), (.int 368 0), (.int 185 0), (.str (Str.ofString "/claim/cut.py") 369)] }
noncomputable def q141 : {x // fnAt 14 = some x} := ⟨_, rfl⟩
noncomputable def o141 : Obj := fO (Str.ofString "_law_told") (Str.ofString "_law_told") q141.1 (.str (Str.ofString "law_rl0116_01") 355) 140
noncomputable def o147 : Obj := { cls := (.type "code"), data := .fields #[(.str (Str.ofString "_law_runs") 371), (.str (Str.ofString "_law_runs") 372), (.str (Str.ofString "/claim/cut.py") 373), (.int 192 0), (.int 1 0), (.int 0 0), (.int 0 0), (.int 3 0), (.ref 142), (.bool true), (.int 181 0), (.ref 143), .none, (.ref 144), (.ref 145), (.ref 146), (.int 375 0), (.int 192 0), (.str (Str.ofString "/claim/cut.py") 376)] }
noncomputable def q148 : {x // fnAt 15 = some x} := ⟨_, rfl⟩
noncomputable def o148 : Obj := fO (Str.ofString "_law_runs") (Str.ofString "_law_runs") q148.1 (.str (Str.ofString "law_rl0116_01") 355) 147
noncomputable def o152 : Obj := { cls := (.type "code"), data := .fields #[(.str (Str.ofString "_law_other") 378), (.str (Str.ofString "_law_other") 379), (.str (Str.ofString "/claim/cut.py") 380), (.int 194 0), (.int 2 0), (.int 0 0), (.int 0 0), (.int 3 0), (.ref 149), (.bool true), (.int 181 0), (.ref 150), .none, .none, .none, (.ref 151), (.int 381 0), (.int 194 0), (.str (Str.ofString "/claim/cut.py") 382)] }
noncomputable def q153 : {x // fnAt 16 = some x} := ⟨_, rfl⟩
noncomputable def o153 : Obj := fO (Str.ofString "_law_other") (Str.ofString "_law_other") q153.1 (.str (Str.ofString "law_rl0116_01") 355) 152
noncomputable def o157 : Obj := { cls := (.type "code"), data := .fields #[(.str (Str.ofString "_law_lead") 384), (.str (Str.ofString "_law_lead") 385), (.str (Str.ofString "/claim/cut.py") 386), (.int 200 0), (.int 1 0), (.int 0 0), (.int 0 0), (.int 3 0), (.ref 154), (.bool true), (.int 181 0), (.ref 155), .none, .none, .none, (.ref 156), (.int 387 0), (.int 200 0), (.str (Str.ofString "/claim/cut.py") 388)] }
noncomputable def q158 : {x // fnAt 17 = some x} := ⟨_, rfl⟩
noncomputable def o158 : Obj := fO (Str.ofString "_law_lead") (Str.ofString "_law_lead") q158.1 (.str (Str.ofString "law_rl0116_01") 355) 157
noncomputable def o164 : Obj := { cls := (.type "code"), data := .fields #[(.str (Str.ofString "_law_pick") 390), (.str (Str.ofString "_law_pick") 391), (.str (Str.ofString "/claim/cut.py") 392), (.int 202 0), (.int 2 0), (.int 0 0), (.int 0 0), (.int 3 0), (.ref 159), (.bool true), (.int 181 0), (.ref 160), .none, (.ref 161), (.ref 162), (.ref 163), (.int 397 0), (.int 202 0), (.str (Str.ofString "/claim/cut.py") 398)] }
noncomputable def q165 : {x // fnAt 18 = some x} := ⟨_, rfl⟩
noncomputable def o165 : Obj := fO (Str.ofString "_law_pick") (Str.ofString "_law_pick") q165.1 (.str (Str.ofString "law_rl0116_01") 355) 164
noncomputable def o169 : Obj := { cls := (.type "code"), data := .fields #[(.str (Str.ofString "_law_fits") 400), (.str (Str.ofString "_law_fits") 401), (.str (Str.ofString "/claim/cut.py") 402), (.int 208 0), (.int 5 0), (.int 0 0), (.int 0 0), (.int 3 0), (.ref 166), (.bool true), (.int 181 0), (.ref 167), .none, .none, .none, (.ref 168), (.int 403 0), (.int 208 0), (.str (Str.ofString "/claim/cut.py") 404)] }
noncomputable def q170 : {x // fnAt 19 = some x} := ⟨_, rfl⟩
noncomputable def o170 : Obj := fO (Str.ofString "_law_fits") (Str.ofString "_law_fits") q170.1 (.str (Str.ofString "law_rl0116_01") 355) 169
noncomputable def o174 : Obj := { cls := (.type "code"), data := .fields #[(.str (Str.ofString "_law_verdicts") 406), (.str (Str.ofString "_law_verdicts") 407), (.str (Str.ofString "/claim/cut.py") 408), (.int 221 0), (.int 3 0), (.int 0 0), (.int 0 0), (.int 3 0), (.ref 171), (.bool true), (.int 181 0), (.ref 172), .none, .none, .none, (.ref 173), (.int 409 0), (.int 221 0), (.str (Str.ofString "/claim/cut.py") 410)] }
noncomputable def q175 : {x // fnAt 20 = some x} := ⟨_, rfl⟩
noncomputable def o175 : Obj := fO (Str.ofString "_law_verdicts") (Str.ofString "_law_verdicts") q175.1 (.str (Str.ofString "law_rl0116_01") 355) 174
noncomputable def o179 : Obj := { cls := (.type "code"), data := .fields #[(.str (Str.ofString "law") 412), (.str (Str.ofString "law") 413), (.str (Str.ofString "/claim/cut.py") 414), (.int 227 0), (.int 1 0), (.int 0 0), (.int 0 0), (.int 3 0), (.ref 176), (.bool true), (.int 181 0), (.ref 177), .none, .none, .none, (.ref 178), (.int 415 0), (.int 227 0), (.str (Str.ofString "/claim/cut.py") 416)] }
noncomputable def q180 : {x // fnAt 21 = some x} := ⟨_, rfl⟩
noncomputable def o180 : Obj := fO (Str.ofString "law") (Str.ofString "law") q180.1 (.str (Str.ofString "law_rl0116_01") 355) 179
noncomputable def KF (P : Params) : Frag := [(2, o2 P), (3, o3 P), (30, o30), (31, o31), (37, o37), (38, o38), (44, o44), (45, o45), (51, o51), (52, o52), (58, o58), (59, o59), (65, o65), (66, o66), (72, o72), (73, o73), (75, o75 P), (76, o76), (77, o77), (78, o78), (86, o86), (87, o87), (93, o93), (94, o94), (100, o100), (101, o101), (107, o107), (108, o108), (114, o114), (115, o115), (121, o121), (122, o122), (128, o128), (129, o129), (135, o135), (136, o136), (140, o140), (141, o141), (147, o147), (148, o148), (152, o152), (153, o153), (157, o157), (158, o158), (164, o164), (165, o165), (169, o169), (170, o170), (174, o174), (175, o175), (179, o179), (180, o180)]
noncomputable def KA : List Addr := [2, 3, 30, 31, 37, 38, 44, 45, 51, 52, 58, 59, 65, 66, 72, 73, 75, 76, 77, 78, 86, 87, 93, 94, 100, 101, 107, 108, 114, 115, 121, 122, 128, 129, 135, 136, 140, 141, 147, 148, 152, 153, 157, 158, 164, 165, 169, 170, 174, 175, 179, 180]
theorem ka_eq : ∀ P, KA = (KF P).map (·.1) := fun _ => rfl
noncomputable abbrev hk : Hook := kHook KF KA ka_eq
noncomputable abbrev Xt : Shared → Bool := fun s => xlAt vw [] s && recOk (RowW.records rwo) s
set_option maxHeartbeats 0 in
theorem hleft : LeftO pw vw lo Xt (Hook.obs hk) (Hook.val hk) 2122 := by
  refine LeftO.of_split "special-get-raises" ?_
  unfold fencedOpening topFrom
  rw [PySem.W.Fast.te10274390034422433532, PySem.W.Fast.te14289696077712309145, PySem.W.Fast.te1435165496053646825, PySem.W.Fast.te14082659384304107361, PySem.W.Fast.te14364793385576792824, PySem.W.Fast.te5923862056798008813, PySem.W.Fast.te4187177175401517315, PySem.W.Fast.te8920871248978507458]
  intro w
  kernel_rfl
theorem hsaid : OpenLaw.wellSaid PySem.Challenge.rw_rl0116_01 = true := by
  rw [PySem.W.Fast.te9446332074065402090]
  kernel_rfl
set_option maxHeartbeats 0 in
theorem hd {d : DefRec} {kwd : List (Str × PySem.Expr)} (hdef : defOf vw (RowW.name rwo) = some (d, kwd)) (hp : rwo.prog.theDef rwo.name = some (d.params, d.body, d.scope)) (hk' : kwWritten? d.params.kwonlyargs d.params.kw_defaults = some kwd)
    (hc : WalkO vw lo (XL vw []) (Hook.says hk) rwo d kwd fun f vs => PySem.call f vs) : PySem.Challenge.rw_rl0116_01.Holds := by
  refine holds_law hsaid fun sd => ?_
  refine holds_open (q := vw) (loose := lo) (Xt := Xt) (XP := XL vw []) (Yf := Hook.obs hk) (Ya := Hook.val hk) (YP := Hook.says hk) (N := 2122) hleft (Hook.of hk) (Hook.keeps hk) (fun s e => xl_of s (Bool.and_eq_true_iff.mp e).1) XL.keeps hdef hp hk' (fun s e => recFacts_of (Bool.and_eq_true_iff.mp e).2) (by rfl) sd (by decide +kernel) ⟨rfl, rfl, rfl, rfl, rfl, by decide +kernel⟩ ⟨[.list []], by decide +kernel, by decide +kernel⟩ hc
noncomputable abbrev cx (w : World) (mean : ExcName → Option Value) (mg mb : Str → Option Value) : Cx := ⟨PySem.Challenge.rw_rl0116_01.row.prog, w, KF w.params, vw, looseW vw lo, mean, mg, mb⟩
end Mine

namespace Mine
variable {w : World} {mean : ExcName → Option Value} {mg mb : Str → Option Value}
def lit (s : String) : List Nat := (Str.ofString s).cps.toList
def escF : List (Nat × List Nat) → List Nat → List Nat
  | [], l => l
  | p :: ps, l => escF ps (rep1 p.1 p.2 l)
theorem escF_flat : ∀ (ps : List (Nat × List Nat)) (l : List Nat), escF ps l = l.flatMap fun a => escF ps [a]
  | [], l => by induction l with | nil => rfl | cons a l ih => simp [escF] at ih ⊢
  | p :: ps, l => by
    show escF ps (rep1 p.1 p.2 l) = l.flatMap fun a => escF ps (rep1 p.1 p.2 [a])
    rw [escF_flat ps]
    simp only [escF_flat ps (rep1 p.1 p.2 _)]
    unfold rep1
    simp [List.flatMap_assoc]
theorem escF_free : ∀ (ps : List (Nat × List Nat)) (a : Nat), a ∉ ps.map (·.1) → escF ps [a] = [a]
  | [], a, _ => rfl
  | p :: ps, a, h => by
    show escF ps (rep1 p.1 p.2 [a]) = [a]
    rw [rep1_free]
    · exact escF_free ps a fun e => h (by simp at e ⊢; exact .inr e)
    · intro e; apply h; simp at e ⊢; exact .inl e.symm
theorem escF_len {ps : List (Nat × List Nat)} (l : List Nat) (h : ∀ a ∈ ps.map (·.1), (escF ps [a]).length ≤ 6) : (escF ps l).length ≤ 6 * l.length := by
  rw [escF_flat]
  induction l with
  | nil => simp
  | cons a l ih =>
    rw [List.flatMap_cons, List.length_append, List.length_cons]
    have : (escF ps [a]).length ≤ 6 := by
      by_cases ha : a ∈ ps.map (·.1)
      · exact h a ha
      · rw [escF_free ps a ha]; simp
    omega
def esc0P : List (Nat × List Nat) := [(38, lit "&amp;"), (60, lit "&lt;"), (62, lit "&gt;")]
def esc1P : List (Nat × List Nat) := [(38, lit "&amp;"), (60, lit "&lt;"), (62, lit "&gt;"), (34, lit "&quot;"), (13, lit "&#13;"), (10, lit "&#10;"), (9, lit "&#09;")]
def esc2P : List (Nat × List Nat) := [(38, lit "&amp;"), (62, lit "&gt;"), (34, lit "&quot;")]
def esc3P : List (Nat × List Nat) := [(38, lit "&amp;"), (60, lit "&lt;"), (62, lit "&gt;"), (13, lit "&#xD;")]
def esc4P : List (Nat × List Nat) := [(38, lit "&amp;"), (60, lit "&lt;"), (34, lit "&quot;"), (9, lit "&#x9;"), (10, lit "&#xA;"), (13, lit "&#xD;")]
theorem fn_esc0 {l : List Nat} {d : Nat} {Φ : V → Prop} (hl : l.length ≤ 10000) (h : Φ (.str (escF esc0P l))) : Fn (cx w mean mg mb) (d + 1) (.ref 101) [.str l] Φ := by
  refine fn_body (names := [Str.ofString "text"]) (by rfl) rfl rfl (by rfl) ?_ rfl (by decide) (by rfl) rfl rfl rfl rfl rfl ?_
  · intro vs hv
    obtain ⟨a, rfl⟩ := len1 hv
    rfl
  intro L
  refine ex_cons (ex_try ?_)
  refine ex_cons (ex_repl (l := escF [] l) (ch := 38) (.inl rfl) rfl (by decide) (by decide) (by decide) (by have := escF_len (ps := []) l (by decide); omega) ?_)
  refine ex_cons (ex_repl (l := escF [(38, lit "&amp;")] l) (ch := 60) (.inl rfl) rfl (by decide) (by decide) (by decide) (by have := escF_len (ps := [(38, lit "&amp;")]) l (by decide); omega) ?_)
  refine ex_cons (ex_repl (l := escF [(38, lit "&amp;"), (60, lit "&lt;")] l) (ch := 62) (.inl rfl) rfl (by decide) (by decide) (by decide) (by have := escF_len (ps := [(38, lit "&amp;"), (60, lit "&lt;")]) l (by decide); omega) ?_)
  exact ex_cons (ex_return (ev_name rfl h))
theorem fn_esc1 {l : List Nat} {d : Nat} {Φ : V → Prop} (hl : l.length ≤ 10000) (h : Φ (.str (escF esc1P l))) : Fn (cx w mean mg mb) (d + 1) (.ref 108) [.str l] Φ := by
  refine fn_body (names := [Str.ofString "text"]) (by rfl) rfl rfl (by rfl) ?_ rfl (by decide) (by rfl) rfl rfl rfl rfl rfl ?_
  · intro vs hv
    obtain ⟨a, rfl⟩ := len1 hv
    rfl
  intro L
  refine ex_cons (ex_try ?_)
  refine ex_cons (ex_repl (l := escF [] l) (ch := 38) (.inl rfl) rfl (by decide) (by decide) (by decide) (by have := escF_len (ps := []) l (by decide); omega) ?_)
  refine ex_cons (ex_repl (l := escF [(38, lit "&amp;")] l) (ch := 60) (.inl rfl) rfl (by decide) (by decide) (by decide) (by have := escF_len (ps := [(38, lit "&amp;")]) l (by decide); omega) ?_)
  refine ex_cons (ex_repl (l := escF [(38, lit "&amp;"), (60, lit "&lt;")] l) (ch := 62) (.inl rfl) rfl (by decide) (by decide) (by decide) (by have := escF_len (ps := [(38, lit "&amp;"), (60, lit "&lt;")]) l (by decide); omega) ?_)
  refine ex_cons (ex_repl (l := escF [(38, lit "&amp;"), (60, lit "&lt;"), (62, lit "&gt;")] l) (ch := 34) (.inl rfl) rfl (by decide) (by decide) (by decide) (by have := escF_len (ps := [(38, lit "&amp;"), (60, lit "&lt;"), (62, lit "&gt;")]) l (by decide); omega) ?_)
  refine ex_cons (ex_repl (l := escF [(38, lit "&amp;"), (60, lit "&lt;"), (62, lit "&gt;"), (34, lit "&quot;")] l) (ch := 13) (.inl rfl) rfl (by decide) (by decide) (by decide) (by have := escF_len (ps := [(38, lit "&amp;"), (60, lit "&lt;"), (62, lit "&gt;"), (34, lit "&quot;")]) l (by decide); omega) ?_)
  refine ex_cons (ex_repl (l := escF [(38, lit "&amp;"), (60, lit "&lt;"), (62, lit "&gt;"), (34, lit "&quot;"), (13, lit "&#13;")] l) (ch := 10) (.inl rfl) rfl (by decide) (by decide) (by decide) (by have := escF_len (ps := [(38, lit "&amp;"), (60, lit "&lt;"), (62, lit "&gt;"), (34, lit "&quot;"), (13, lit "&#13;")]) l (by decide); omega) ?_)
  refine ex_cons (ex_repl (l := escF [(38, lit "&amp;"), (60, lit "&lt;"), (62, lit "&gt;"), (34, lit "&quot;"), (13, lit "&#13;"), (10, lit "&#10;")] l) (ch := 9) (.inl rfl) rfl (by decide) (by decide) (by decide) (by have := escF_len (ps := [(38, lit "&amp;"), (60, lit "&lt;"), (62, lit "&gt;"), (34, lit "&quot;"), (13, lit "&#13;"), (10, lit "&#10;")]) l (by decide); omega) ?_)
  exact ex_cons (ex_return (ev_name rfl h))
theorem fn_esc2 {l : List Nat} {d : Nat} {Φ : V → Prop} (hl : l.length ≤ 10000) (h : Φ (.str (escF esc2P l))) : Fn (cx w mean mg mb) (d + 1) (.ref 115) [.str l] Φ := by
  refine fn_body (names := [Str.ofString "text"]) (by rfl) rfl rfl (by rfl) ?_ rfl (by decide) (by rfl) rfl rfl rfl rfl rfl ?_
  · intro vs hv
    obtain ⟨a, rfl⟩ := len1 hv
    rfl
  intro L
  refine ex_cons (ex_try ?_)
  refine ex_cons (ex_repl (l := escF [] l) (ch := 38) (.inl rfl) rfl (by decide) (by decide) (by decide) (by have := escF_len (ps := []) l (by decide); omega) ?_)
  refine ex_cons (ex_repl (l := escF [(38, lit "&amp;")] l) (ch := 62) (.inl rfl) rfl (by decide) (by decide) (by decide) (by have := escF_len (ps := [(38, lit "&amp;")]) l (by decide); omega) ?_)
  refine ex_cons (ex_repl (l := escF [(38, lit "&amp;"), (62, lit "&gt;")] l) (ch := 34) (.inl rfl) rfl (by decide) (by decide) (by decide) (by have := escF_len (ps := [(38, lit "&amp;"), (62, lit "&gt;")]) l (by decide); omega) ?_)
  exact ex_cons (ex_return (ev_name rfl h))
theorem fn_esc3 {l : List Nat} {d : Nat} {Φ : V → Prop} (hl : l.length ≤ 10000) (h : Φ (.str (escF esc3P l))) : Fn (cx w mean mg mb) (d + 1) (.ref 122) [.str l] Φ := by
  refine fn_body (names := [Str.ofString "text"]) (by rfl) rfl rfl (by rfl) ?_ rfl (by decide) (by rfl) rfl rfl rfl rfl rfl ?_
  · intro vs hv
    obtain ⟨a, rfl⟩ := len1 hv
    rfl
  intro L
  refine ex_cons (ex_try ?_)
  refine ex_cons (ex_repl (l := escF [] l) (ch := 38) (.inl rfl) rfl (by decide) (by decide) (by decide) (by have := escF_len (ps := []) l (by decide); omega) ?_)
  refine ex_cons (ex_repl (l := escF [(38, lit "&amp;")] l) (ch := 60) (.inl rfl) rfl (by decide) (by decide) (by decide) (by have := escF_len (ps := [(38, lit "&amp;")]) l (by decide); omega) ?_)
  refine ex_cons (ex_repl (l := escF [(38, lit "&amp;"), (60, lit "&lt;")] l) (ch := 62) (.inl rfl) rfl (by decide) (by decide) (by decide) (by have := escF_len (ps := [(38, lit "&amp;"), (60, lit "&lt;")]) l (by decide); omega) ?_)
  refine ex_cons (ex_repl (l := escF [(38, lit "&amp;"), (60, lit "&lt;"), (62, lit "&gt;")] l) (ch := 13) (.inl rfl) rfl (by decide) (by decide) (by decide) (by have := escF_len (ps := [(38, lit "&amp;"), (60, lit "&lt;"), (62, lit "&gt;")]) l (by decide); omega) ?_)
  exact ex_cons (ex_return (ev_name rfl h))
theorem fn_esc4 {l : List Nat} {d : Nat} {Φ : V → Prop} (hl : l.length ≤ 10000) (h : Φ (.str (escF esc4P l))) : Fn (cx w mean mg mb) (d + 1) (.ref 129) [.str l] Φ := by
  refine fn_body (names := [Str.ofString "text"]) (by rfl) rfl rfl (by rfl) ?_ rfl (by decide) (by rfl) rfl rfl rfl rfl rfl ?_
  · intro vs hv
    obtain ⟨a, rfl⟩ := len1 hv
    rfl
  intro L
  refine ex_cons (ex_try ?_)
  refine ex_cons (ex_repl (l := escF [] l) (ch := 38) (.inl rfl) rfl (by decide) (by decide) (by decide) (by have := escF_len (ps := []) l (by decide); omega) ?_)
  refine ex_cons (ex_repl (l := escF [(38, lit "&amp;")] l) (ch := 60) (.inl rfl) rfl (by decide) (by decide) (by decide) (by have := escF_len (ps := [(38, lit "&amp;")]) l (by decide); omega) ?_)
  refine ex_cons (ex_repl (l := escF [(38, lit "&amp;"), (60, lit "&lt;")] l) (ch := 34) (.inl rfl) rfl (by decide) (by decide) (by decide) (by have := escF_len (ps := [(38, lit "&amp;"), (60, lit "&lt;")]) l (by decide); omega) ?_)
  refine ex_cons (ex_repl (l := escF [(38, lit "&amp;"), (60, lit "&lt;"), (34, lit "&quot;")] l) (ch := 9) (.inl rfl) rfl (by decide) (by decide) (by decide) (by have := escF_len (ps := [(38, lit "&amp;"), (60, lit "&lt;"), (34, lit "&quot;")]) l (by decide); omega) ?_)
  refine ex_cons (ex_repl (l := escF [(38, lit "&amp;"), (60, lit "&lt;"), (34, lit "&quot;"), (9, lit "&#x9;")] l) (ch := 10) (.inl rfl) rfl (by decide) (by decide) (by decide) (by have := escF_len (ps := [(38, lit "&amp;"), (60, lit "&lt;"), (34, lit "&quot;"), (9, lit "&#x9;")]) l (by decide); omega) ?_)
  refine ex_cons (ex_repl (l := escF [(38, lit "&amp;"), (60, lit "&lt;"), (34, lit "&quot;"), (9, lit "&#x9;"), (10, lit "&#xA;")] l) (ch := 13) (.inl rfl) rfl (by decide) (by decide) (by decide) (by have := escF_len (ps := [(38, lit "&amp;"), (60, lit "&lt;"), (34, lit "&quot;"), (9, lit "&#x9;"), (10, lit "&#xA;")]) l (by decide); omega) ?_)
  exact ex_cons (ex_return (ev_name rfl h))
def escP : Nat → List (Nat × List Nat)
  | 0 => esc0P
  | 1 => esc1P
  | 2 => esc2P
  | 3 => esc3P
  | 4 => esc4P
  | _ => []
theorem fn_hand {l : List Nat} {k : Nat} (hk : k < 6) {d : Nat} {Φ : V → Prop} (hl : l.length ≤ 10000) (h : Φ (.str (escF (escP k) l))) : Fn (cx w mean mg mb) (d + 2) (.ref 136) [.int k, .str l] Φ := by
  refine fn_body (names := [Str.ofString "which", Str.ofString "text"]) (by rfl) rfl rfl (by rfl) ?_ rfl (by decide) (by rfl) rfl rfl rfl rfl rfl ?_
  · intro vs hv
    obtain ⟨a, b, rfl⟩ := len2 hv
    rfl
  intro L
  refine ex_cons <| ex_if <| et_cmp <| ev_name rfl <| ev_int <| op_eq <| tt_bool <| ite_both (fun e => ?_) fun e0 => ?_
  · refine ex_cons <| ex_return <| ev_call <| ev_glob rfl rfl ⟨rfl, rfl, el_cons <| ev_name rfl <| el_nil <| fn_esc0 hl ?_⟩
    obtain rfl : k = 0 := by simp at e; omega
    exact h
  refine ex_nil ?_
  refine ex_cons <| ex_if <| et_cmp <| ev_name rfl <| ev_int <| op_eq <| tt_bool <| ite_both (fun e => ?_) fun e1 => ?_
  · refine ex_cons <| ex_return <| ev_call <| ev_glob rfl rfl ⟨rfl, rfl, el_cons <| ev_name rfl <| el_nil <| fn_esc1 hl ?_⟩
    obtain rfl : k = 1 := by simp at e; omega
    exact h
  refine ex_nil ?_
  refine ex_cons <| ex_if <| et_cmp <| ev_name rfl <| ev_int <| op_eq <| tt_bool <| ite_both (fun e => ?_) fun e2 => ?_
  · refine ex_cons <| ex_return <| ev_call <| ev_glob rfl rfl ⟨rfl, rfl, el_cons <| ev_name rfl <| el_nil <| fn_esc2 hl ?_⟩
    obtain rfl : k = 2 := by simp at e; omega
    exact h
  refine ex_nil ?_
  refine ex_cons <| ex_if <| et_cmp <| ev_name rfl <| ev_int <| op_eq <| tt_bool <| ite_both (fun e => ?_) fun e3 => ?_
  · refine ex_cons <| ex_return <| ev_call <| ev_glob rfl rfl ⟨rfl, rfl, el_cons <| ev_name rfl <| el_nil <| fn_esc3 hl ?_⟩
    obtain rfl : k = 3 := by simp at e; omega
    exact h
  refine ex_nil ?_
  refine ex_cons <| ex_if <| et_cmp <| ev_name rfl <| ev_int <| op_eq <| tt_bool <| ite_both (fun e => ?_) fun e4 => ?_
  · refine ex_cons <| ex_return <| ev_call <| ev_glob rfl rfl ⟨rfl, rfl, el_cons <| ev_name rfl <| el_nil <| fn_esc4 hl ?_⟩
    obtain rfl : k = 4 := by simp at e; omega
    exact h
  refine ex_nil ?_
  refine ex_cons <| ex_return <| ev_name rfl ?_
  obtain rfl : k = 5 := by simp at e0 e1 e2 e3 e4; omega
  exact h
end Mine

namespace Mine
variable {w : World} {mean : ExcName → Option Value} {mg mb : Str → Option Value}
theorem headD_get {ws : List (List Nat)} (h : 1 ≤ ws.length) : (ws.map V.str)[(0 : Nat)]? = some (.str (ws.headD [])) := by
  match ws, h with
  | p :: r, _ => rfl
theorem lastD_get {ws : List (List Nat)} (h : 1 ≤ ws.length) : (ws.map V.str)[((-1 : Int) + (ws.map V.str).length).toNat]? = some (.str (ws.getLastD [])) := by
  have e : ((-1 : Int) + (ws.map V.str).length).toNat = ws.length - 1 := by simp; omega
  rw [e, List.getElem?_map, List.getLastD_eq_getLast?, List.getLast?_eq_getElem?]
  rw [List.getElem?_eq_getElem (by omega)]; rfl
theorem map_erase (f : List Nat → V) : ∀ (l : List (List Nat)) (i : Nat), (l.map f).eraseIdx i = (l.eraseIdx i).map f
  | [], i => by simp
  | a :: l, 0 => by simp
  | a :: l, i + 1 => by simp [map_erase f l i]
theorem map_tail (ws : List (List Nat)) : (ws.map V.str).eraseIdx 0 = ws.tail.map V.str := by cases ws <;> rfl
theorem map_init (ws : List (List Nat)) (h : 1 ≤ ws.length) : (ws.map V.str).eraseIdx ((-1 : Int) + (ws.map V.str).length).toNat = ws.dropLast.map V.str := by
  have e : ((-1 : Int) + (ws.map V.str).length).toNat = ws.length - 1 := by simp; omega
  rw [e, map_erase, List.eraseIdx_length_sub_one]
theorem seq_first {ws : List (List Nat)} (h : 1 ≤ ws.length) : seqIndex? 0 (ws.map V.str).length = some 0 := by
  rw [List.length_map]
  show (if ((decide ((0 : Int) ≤ 0) && decide ((0 : Int) < (ws.length : Nat))) = true) then some (0 : Int).toNat else none) = _
  rw [if_pos (by simp; omega)]; rfl
theorem seq_last {ws : List (List Nat)} (h : 1 ≤ ws.length) : seqIndex? (-1) (ws.map V.str).length = some (ws.length - 1) := by
  rw [List.length_map]
  show (if ((decide ((0 : Int) ≤ -1 + (ws.length : Nat)) && decide ((-1 + (ws.length : Nat) : Int) < (ws.length : Nat))) = true) then some (-1 + (ws.length : Nat) : Int).toNat else none) = _
  rw [if_pos (by simp; omega)]
  congr 1; omega
theorem fn_em {ws : List (List Nat)} {got : List Nat} {d : Nat} {Φ : V → Prop} (hfree : ∀ p ∈ ws, 46 ∉ p) (h2 : 2 ≤ ws.length) (hw : ws.length ≤ 100000) (hwl : ∀ p ∈ ws, p.length ≤ 100000) (hl : (jn dots ws).length ≤ 100000) (hgot : got.length ≤ 100000)
    (h : Φ (.bool (emW got ws))) : Fn (cx w mean mg mb) (d + 1) (.ref 87) [.str (jn dots ws), .str got] Φ := by
  have hsz : sizeLine = 16777216 := by decide
  refine fn_body (names := [n "want", n "got"]) (by rfl) rfl rfl (by rfl) ?_ rfl (by decide) (by rfl) rfl rfl rfl rfl rfl ?_
  · intro vs hv
    obtain ⟨a, b, rfl⟩ := len2 hv
    rfl
  intro L
  refine ex_cons (ex_if (et_cmp (ev_glob_str rfl rfl (ev_name rfl (op_nins (tt_bool (ite_both (fun e => ?_) fun e => ?_)))))))
  · exfalso
    have := find_jn (ps := ws) h2
    rw [Option.isNone_iff_eq_none] at e
    rw [show findL (jn dots ws) dots 0 (jn dots ws).length = none from e] at this; cases this
  refine ex_nil (ex_cons (ex_assign_own (.inl rfl) (ef_smeth F.slot_str_split F.type_str_split (ev_name rfl ⟨⟨_, rfl⟩, el_cons (ev_glob_str rfl rfl (el_nil (ff_splitW (split_jn h2 hfree) (by decide) (by omega) ?_)))⟩))))
  refine ex_cons (ex_assert (et_cmp (ev_len_own (l := ws.map .str) rfl (by simp; omega) (ev_blt rfl rfl rfl ⟨rfl, ev_int (op_ge (tt_bool ⟨by simp; omega, ?_⟩))⟩))))
  refine ex_cons (ex_swap2 (.inl rfl) (.inl rfl) (ev_tuple (el_cons (ev_int (el_cons (ev_call (ev_blt rfl rfl rfl ⟨rfl, trivial, el_cons (ev_name rfl (el_nil (fn_len_str (by omega) (el_nil ⟨by simp; omega, _, _, rfl, ?_⟩))))⟩)))))))
  refine ex_cons (ex_assign (.inl rfl) (ev_item_own (l := ws.map .str) rfl (by simp; omega) (ev_int ⟨0, _, rfl, .inl ⟨by omega, headD_get (by omega)⟩, ?_⟩)))
  have hhd : (ws.headD []).length ≤ 100000 := by
    match ws, h2 with
    | p :: r, _ => exact hwl p (by simp)
  refine ex_mid (fun τ => τ (n "got") = some (.val (.str got)) ∧ τ (n "endpos") = some (.val (.int got.length)) ∧ ∃ (ws' : List (List Nat)) (sp : Nat), 1 ≤ ws'.length ∧ ws'.length ≤ 100000 ∧ (∀ p ∈ ws', p.length ≤ 100000) ∧
    τ (n "ws") = some (.own (ws'.map .str)) ∧ τ (n "startpos") = some (.val (.int sp)) ∧ emE got ws' sp = emW got ws)
    (ex_if (et_plain (ev_name rfl (tt_str (by omega) (ite_both (fun e => ?_) fun e => ?_))))) ?_
  · refine ex_cons (ex_if (et_plain (ev_smeth F.slot_str_startswith F.type_str_startswith (ev_name rfl ⟨⟨_, rfl⟩, el_cons (ev_name rfl (el_nil (fn_startswith (tt_bool (ite_both (fun e1 => ?_) fun e1 => ?_)))))⟩))))
    · refine ex_cons (ex_assign (.inl rfl) (ev_call (ev_blt rfl rfl rfl ⟨rfl, trivial, el_cons (ev_name rfl (el_nil (fn_len_str (by have := hhd; omega) ?_)))⟩)))
      refine ex_cons (ex_del (l := ws.map .str) rfl (by simp; omega) (ev_int ⟨0, 0, rfl, rfl, seq_first (by omega), ?_⟩))
      refine ex_nil <| ex_nil ⟨rfl, rfl, ws.tail, (ws.headD []).length, by simp; omega, by simp; omega, fun p hp => hwl p (List.mem_of_mem_tail hp), ?_, rfl, ?_⟩
      · show some (Slot.own ((ws.map .str).eraseIdx 0)) = _
        rw [map_tail]
      · unfold emW
        rw [if_pos (by simpa using e), if_pos e1]
    · refine ex_cons (ex_return (ev_bool ?_))
      have : emW got ws = false := by
        unfold emW
        rw [if_pos (by simpa using e), if_neg (by rw [e1]; exact Bool.false_ne_true)]
      rw [this] at h; exact h
  · refine ex_nil ⟨rfl, rfl, ws, 0, by omega, hw, hwl, rfl, rfl, ?_⟩
    unfold emW
    rw [if_neg (by simpa using e)]
  rintro τ ⟨t1, t2, ws', sp, w1, w2, w3, t3, t4, hR⟩
  have hlast : (ws'.getLastD []).length ≤ 100000 := by
    rw [List.getLastD_eq_getLast?]
    cases e : ws'.getLast? with
    | none => simp
    | some p => simpa using w3 p (List.mem_of_getLast? e)
  refine ex_cons (ex_assign (.inl rfl) (ev_item_own t3 (by simp; omega) (ev_unary (ev_int (op_neg ⟨-1, _, rfl, .inr ⟨by omega, by simp; omega, lastD_get w1⟩, ?_⟩)))))
  refine ex_mid (fun τ => τ (n "got") = some (.val (.str got)) ∧ ∃ (ws' : List (List Nat)) (sp ep : Nat), ep ≤ got.length ∧ ws'.length ≤ 100000 ∧ (∀ p ∈ ws', p.length ≤ 100000) ∧
    τ (n "endpos") = some (.val (.int ep)) ∧ τ (n "ws") = some (.own (ws'.map .str)) ∧ τ (n "startpos") = some (.val (.int sp)) ∧ emC got ws' sp ep = emW got ws)
    (ex_if (et_plain (ev_name rfl (tt_str (by omega) (ite_both (fun e => ?_) fun e => ?_))))) ?_
  · refine ex_cons (ex_if (et_plain (ev_smeth F.slot_str_endswith F.type_str_endswith (ev_name t1 ⟨⟨_, rfl⟩, el_cons (ev_name rfl (el_nil (fn_endswith (tt_bool (ite_both (fun e1 => ?_) fun e1 => ?_)))))⟩))))
    · refine ex_cons (ex_aug (.inl rfl) t2 (ev_call (ev_blt rfl rfl rfl ⟨rfl, trivial, el_cons (ev_name rfl (el_nil (fn_len_str (by omega) (op_isub ?_))))⟩)))
      refine ex_cons (ex_del (l := ws'.map .str) t3 (by simp; omega) (ev_unary (ev_int (op_neg ⟨-1, _, rfl, rfl, seq_last w1, ?_⟩))))
      have hle : (ws'.getLastD []).length ≤ got.length := by rw [Bool.and_eq_true] at e1; exact of_decide_eq_true e1.1
      refine ex_nil <| ex_nil ⟨t1, ws'.dropLast, sp, got.length - (ws'.getLastD []).length, by omega, by simp; omega, fun p hp => w3 p (List.dropLast_subset _ hp), ?_, ?_, t4, ?_⟩
      · show some (Slot.val (.int ((got.length : Int) - ((ws'.getLastD []).length : Nat)))) = _
        rw [Int.ofNat_sub hle]
      · show some (Slot.own ((ws'.map .str).eraseIdx (ws'.length - 1))) = _
        rw [map_erase, List.eraseIdx_length_sub_one]
      · rw [← hR]
        unfold emE
        rw [if_pos (by simpa using e), if_pos e1]
    · refine ex_cons (ex_return (ev_bool ?_))
      have : emW got ws = false := by
        rw [← hR]
        unfold emE
        rw [if_pos (by simpa using e), if_neg (by rw [e1]; exact Bool.false_ne_true)]
      rw [this] at h; exact h
  · refine ex_nil ⟨t1, ws', sp, got.length, Nat.le_refl _, w2, w3, t2, t3, t4, ?_⟩
    rw [← hR]
    unfold emE
    rw [if_neg (by simpa using e)]
  clear t1 t2 w1 w2 w3 t3 t4 hR hlast
  clear ws' sp τ
  rintro τ ⟨t1, ws', sp, ep, hep, w2, w3, t2, t3, t4, hR⟩
  refine ex_cons (ex_if (et_cmp (ev_name t4 (ev_name t2 (op_gt (tt_bool (ite_both (fun e => ?_) fun e => ?_)))))))
  · refine ex_cons (ex_return (ev_bool ?_))
    have : emW got ws = false := by
      rw [← hR]
      unfold emC
      rw [if_pos (by simpa using e)]
    rw [this] at h; exact h
  refine ex_nil (ex_freeze t3 (ex_cons ?_))
  have hR' : emLoop got ws' sp ep = emW got ws := by
    rw [← hR]
    unfold emC
    rw [if_neg (by simpa using e)]
  refine ex_for (fun items i τ => τ (n "got") = some (.val (.str got)) ∧ τ (n "endpos") = some (.val (.int ep)) ∧ ∃ sp : Nat, τ (n "startpos") = some (.val (.int sp)) ∧ emLoop got (ws'.drop i) sp ep = emW got ws)
    (evi_list (ev_name rfl ⟨_, rfl, trivial, ⟨t1, t2, sp, t4, hR'⟩, ?_, ?_⟩))
  · rintro i y τ' hy ⟨u1, u2, sp', u3, u4⟩
    rw [List.getElem?_map] at hy
    obtain ⟨p, hp, rfl⟩ := Option.map_eq_some_iff.mp hy
    have hp3 := w3 p (List.mem_of_getElem? hp)
    have hdr : ws'.drop i = p :: ws'.drop (i + 1) := by
      obtain ⟨hi, e⟩ := List.getElem?_eq_some_iff.mp hp
      rw [List.drop_eq_getElem_cons hi, e]
    rw [hdr, emLoop] at u4
    refine ⟨.inl rfl, ex_cons (ex_assign (.inl rfl) (ev_smeth F.slot_str_find F.type_str_find (ev_name u1 ⟨⟨_, rfl⟩, el_cons (ev_name rfl (el_cons (ev_name u3 (el_cons (ev_name u2 (el_nil (fn_find4 hep ?_)))))))⟩)))⟩
    refine ex_cons (ex_if (et_cmp (ev_name rfl (ev_int (op_lt (tt_bool (ite_both (fun e => ?_) fun e => ?_)))))))
    · refine ex_cons (ex_return (ev_bool ?_))
      cases hf : findL got p sp' ep with
      | some q => rw [hf] at e; have := of_decide_eq_true e; simp only [oint] at this; omega
      | none =>
        rw [hf] at u4
        simp only at u4
        rw [← u4] at h; exact h
    · cases hf : findL got p sp' ep with
      | none => rw [hf] at e; simp [oint] at e
      | some q =>
        rw [hf] at u4
        refine ex_nil (ex_cons (ex_aug (.inl rfl) rfl (ev_call (ev_blt rfl rfl rfl ⟨rfl, trivial, el_cons (ev_name rfl (el_nil (fn_len_str (by omega) (op_iadd (ex_nil ⟨u1, u2, q + p.length, ?_, u4⟩)))))⟩))))
        rfl
  · rintro τ' ⟨u1, u2, sp', u3, u4⟩
    rw [List.length_map, List.drop_length, emLoop] at u4
    refine ex_cons (ex_return (ev_bool ?_))
    rw [← u4] at h; exact h
end Mine

namespace Mine
variable {w : World} {mean : ExcName → Option Value} {mg mb : Str → Option Value}
theorem fn_ws {l : List Nat} {d : Nat} {Φ : V → Prop} (hl : l.length ≤ 10000) (h : Φ (.obj 76 wsNames (wsVals l (wsOf l)))) : Fn (cx w mean mg mb) (d + 2) (.ref 76) [.str l] Φ := by
  have hsz : sizeLine = 16777216 := by decide
  refine fn_class (names := [n "self", n "ws"]) (f := 31) (by rfl) (by rfl) (by rfl) (by rfl) rfl rfl (by rfl) ?_ rfl (by decide) (by rfl) rfl rfl rfl rfl rfl ?_
  · intro vs hv
    obtain ⟨a, b, rfl⟩ := len2 hv
    rfl
  intro L x dx
  refine exo_set rfl (by decide) (by rfl) (by decide) (ev_name rfl ?_)
  refine exo_plain0 (ex_swap2 (.inl rfl) (.inl rfl) (ev_tuple (el_cons (ev_clsattr (mc := .type "type") (by rfl) (by rfl) (ev_glob rfl rfl ⟨rfl, el_cons (ev_clsattr (mc := .type "type") (by rfl) (by rfl) (ev_glob rfl rfl ⟨rfl, el_nil ⟨by simp; omega, _, _, rfl, _, rfl, ?_⟩⟩))⟩)))))
  refine exo_plain0 (ex_assign_own (.inl rfl) (ef_list (el_nil ⟨by simp, _, rfl, ?_⟩)))
  refine exo_plain0 (ex_assign3 (.inl rfl) (.inl rfl) (.inl rfl) (ev_int ⟨_, rfl, ?_⟩))
  refine exo_mid (fun τ => τ (n "self") = some (.val (.raw (.ref x))) ∧ τ (n "count") = some (.own (natsV (wsOf l).count)) ∧ τ (n "b") = some (.val (.int (wsOf l).b)) ∧ τ (n "n") = some (.val (.int (wsOf l).n)) ∧ τ (n "nt") = some (.val (.int (wsOf l).nt)) ∧ (wsOf l).count.length ≤ 100000) ?_ ?_
  rotate_left
  · rintro τ ⟨t0, t1, t2, t3, t4, t5⟩
    refine exo_set t0 (by decide) (by rfl) (by decide) (ev_name t3 ?_)
    refine exo_set t0 (by decide) (by rfl) (by decide) (ev_name t4 ?_)
    refine exo_freeze t1 ?_
    refine exo_set t0 (by decide) (by rfl) (by decide) (ev_tuple (el_cons (ev_call (ev_blt rfl rfl rfl ⟨rfl, trivial, el_cons (ev_name rfl (el_nil (fn_tuple (by simp [natsV]; omega) (el_cons (ev_name t2 (el_nil ⟨by simp; omega, ?_⟩))))))⟩))))
    refine exo_set t0 (by decide) (by rfl) (by decide) (ev_cmp (ev_call (ev_blt rfl rfl rfl ⟨rfl, trivial, el_cons (ev_name rfl (el_nil (fn_len_list (by simp [natsV]; omega) (ev_int (op_le ?_)))))⟩)))
    refine exo_nil ?_
    have e : ((natsV (wsOf l).count).length : Int) = ((wsOf l).count.length : Int) := by simp [natsV]
    rw [e]; exact h
  intro es m vs k1 k2 k3 k4 k5
  obtain ⟨H, X, k5⟩ := k5
  obtain ⟨v0, rfl, k6⟩ := k5.one
  obtain ⟨t0, rfl⟩ := k6.toStr
  have hg : getL (n "raw") es = some (some (.str (S l) t0)) := (List.cons.inj k4).1
  have lx : ((cx w mean mg mb).more x dx 76 es m).K.lookup x = some (instObj 76 dx) := by
    show ((cx w mean mg mb).K ++ [(x, instObj 76 dx), (dx, dictOf es m)]).lookup x = _
    rw [List.lookup_append, k1]; simp
  have ld : ((cx w mean mg mb).more x dx 76 es m).K.lookup dx = some (dictOf es m) := by
    show ((cx w mean mg mb).K ++ [(x, instObj 76 dx), (dx, dictOf es m)]).lookup dx = _
    have hb : (dx == x) = false := by simpa using fun e : dx = x => k3 e.symm
    rw [List.lookup_append, k2]; simp [List.lookup_cons, hb]
  refine ex_for (fun items i τ => items = l.map (fun ch => V.str [ch]) ∧ τ (n "self") = some (.val (.raw (.ref x))) ∧ τ (n "S") = some (.val (.str [32])) ∧ τ (n "T") = some (.val (.str [9])) ∧ ∃ u : WS, wsRun (l.drop i) u = wsOf l ∧ u.b ≤ i ∧ u.count.length ≤ i ∧ τ (n "count") = some (.own (natsV u.count)) ∧ τ (n "b") = some (.val (.int u.b)) ∧ τ (n "n") = some (.val (.int u.n)) ∧ τ (n "nt") = some (.val (.int u.nt)))
    (evi_str (ev_selfattr rfl lx ld hg (by rfl) ⟨l, rfl, ⟨rfl, rfl, rfl, rfl, ⟨0, 0, 0, []⟩, rfl, Nat.le_refl _, Nat.le_refl _, rfl, rfl, rfl, rfl⟩, ?_, ?_⟩))
  · rintro i y τ hy ⟨_, t1, t2, t3, u, hu, hb, hc, t4, t5, t6, t7⟩
    rw [List.getElem?_map] at hy
    obtain ⟨ch, hch, rfl⟩ := Option.map_eq_some_iff.mp hy
    have hil : i < l.length := by
      rcases Nat.lt_or_ge i l.length with q | q
      · exact q
      · rw [List.getElem?_eq_none q] at hch; cases hch
    have hdr : l.drop i = ch :: l.drop (i + 1) := by
      obtain ⟨hi, e⟩ := List.getElem?_eq_some_iff.mp hch
      rw [List.drop_eq_getElem_cons hi, e]
    rw [hdr, wsRun] at hu
    refine ⟨.inl rfl, ex_cons (ex_if (et_cmp (ev_name rfl (ev_name t2 (op_eqs (tt_bool (ite_both (fun e => ?_) fun e => ?_)))))))⟩
    · have e' : ch = 32 := by simpa using e
      rw [if_pos e'] at hu
      refine ex_cons (ex_assign (.inl rfl) (ev_binop (ev_name t6 (ev_int (op_add ?_)))))
      refine ex_cons (ex_assign (.inl rfl) (ev_binop (ev_name t5 (ev_int (op_add ?_)))))
      refine ex_nil (ex_nil ⟨rfl, t1, t2, t3, u.blank, hu, ?_, ?_, t4, rfl, rfl, t7⟩)
      · show u.b + 1 ≤ i + 1; omega
      · show u.count.length ≤ i + 1; omega
    · have e' : ¬ ch = 32 := by simpa using e
      rw [if_neg e'] at hu
      refine ex_cons (ex_if (et_cmp (ev_name rfl (ev_name t3 (op_eqs (tt_bool (ite_both (fun e1 => ?_) fun e1 => ?_)))))))
      · have e1' : ch = 9 := by simpa using e1
        rw [if_pos e1'] at hu
        refine ex_cons (ex_assign (.inl rfl) (ev_binop (ev_name t6 (ev_int (op_add ?_)))))
        refine ex_cons (ex_assign (.inl rfl) (ev_binop (ev_name t7 (ev_int (op_add ?_)))))
        refine ex_mid (fun τ => τ (n "self") = some (.val (.raw (.ref x))) ∧ τ (n "S") = some (.val (.str [32])) ∧ τ (n "T") = some (.val (.str [9])) ∧ τ (n "count") = some (.own (natsV u.pad)) ∧ τ (n "b") = some (.val (.int u.b)) ∧ τ (n "n") = some (.val (.int (u.n + 1))) ∧ τ (n "nt") = some (.val (.int (u.nt + 1))))
          (ex_if (et_cmp (ev_name t5 (ev_len_own t4 (by simp [natsV]; omega) (ev_blt rfl rfl rfl ⟨rfl, op_ge (tt_bool (ite_both (fun e2 => ?_) fun e2 => ?_))⟩))))) ?_
        · have e2' : u.count.length ≤ u.b := by simpa [natsV] using e2
          refine ex_freeze (x := n "count") t4 (ex_cons (ex_assign_own (.inl rfl) (ef_binop (ev_name rfl (EvF.ev (ef_binop ?_))))))
          refine ev_list (el_cons (ev_int (el_nil ⟨by simp; omega, ?_⟩)))
          refine ev_binop (ev_binop (ev_name t5 (ev_call (ev_blt rfl rfl rfl ⟨rfl, trivial, el_cons (ev_name rfl (el_nil (fn_len_list (by simp [natsV]; omega) (op_sub (ev_int (op_add (opf_mull ?_ ?_ ?_ (opf_addl ?_ ?_))))))))⟩))))
          · simp [natsV]; omega
          · simp [natsV]; omega
          · simp [natsV]; omega
          · simp [natsV]; omega
          refine ex_nil ⟨t1, t2, t3, ?_, t5, rfl, rfl⟩
          show some (Slot.own _) = _
          congr 2
          unfold WS.pad
          rw [if_pos e2', natsV, natsV, List.map_append, List.length_map]
          congr 1
          have : ((u.b : Int) - (u.count.length : Nat) + 1).toNat = u.b - u.count.length + 1 := by omega
          rw [this, List.map_replicate]
          have hz : ∀ k, (List.replicate k [V.int 0]).flatten = List.replicate k (V.int 0) := fun k => by induction k with | zero => rfl | succ k ih => rw [List.replicate_succ, List.flatten_cons, ih]; rfl
          exact hz _
        · have e2' : ¬ u.count.length ≤ u.b := by simpa [natsV] using e2
          refine ex_nil ⟨t1, t2, t3, ?_, t5, rfl, rfl⟩
          unfold WS.pad
          rw [if_neg e2']; exact t4
        rintro τ' ⟨r1, r2, r3, r4, r5, r6, r7⟩
        have hp := u.pad_len
        have hpl : u.pad.length ≤ 10001 := by
          unfold WS.pad; split
          · rw [List.length_append, List.length_replicate]; omega
          · omega
        have hget : (natsV u.pad)[(u.b : Int).toNat]? = some (.int (u.pad.getD u.b 0 : Nat)) := by
          simp [natsV, List.getD_eq_getElem?_getD, hp]
        refine ex_cons (ex_setitem r4 (by simp [natsV]; omega) (ev_binop (ev_item_own r4 (by simp [natsV]; omega) (ev_name r5 ⟨_, _, rfl, .inl ⟨by omega, hget⟩, ev_int (op_add (ev_name r5 ⟨(u.b : Int), rfl, by omega, by show ((u.b : Nat) : Int) < ((natsV u.pad).length : Nat); rw [natsV, List.length_map]; omega, ?_⟩))⟩))))
        refine ex_cons (ex_assign (.inl rfl) (ev_int (ex_nil (ex_nil (ex_nil ⟨rfl, r1, r2, r3, u.tab, hu, ?_, ?_, ?_, rfl, r6, r7⟩)))))
        · show 0 ≤ i + 1; omega
        · show (u.pad.set u.b _).length ≤ i + 1
          rw [List.length_set]
          unfold WS.pad; split
          · rw [List.length_append, List.length_replicate]; omega
          · omega
        · show some (Slot.own _) = some (Slot.own (natsV (u.pad.set u.b (u.pad.getD u.b 0 + 1))))
          simp [natsV, List.map_set]
      · refine ex_cons (ex_break ?_)
        have e1' : ¬ ch = 9 := by simpa using e1
        rw [if_neg e1'] at hu
        subst hu
        exact ⟨_, rfl, t1, t4, t5, t6, t7, by omega⟩
  · rintro τ ⟨_, t1, t2, t3, u, hu, hb, hc, t4, t5, t6, t7⟩
    rw [List.length_map, List.drop_length, wsRun] at hu
    rw [List.length_map] at hb hc
    subst hu
    exact ⟨_, rfl, t1, t4, t5, t6, t7, by omega⟩
end Mine

namespace Mine
variable {w : World} {mean : ExcName → Option Value} {mg mb : Str → Option Value}
theorem fn_lvl {l : List Nat} {u : WS} {ts d : Nat} {Φ : V → Prop} (h1 : 1 ≤ ts) (h2 : ts ≤ 1000000) (hc : u.count.length ≤ 1000000) (h : Φ (.int (lvl u ts))) : Fn (cx w mean mg mb) (d + 1) (.ref 45) [.obj 76 wsNames (wsVals l u), .int ts] Φ := by
  have hsz : sizeLine = 16777216 := by decide
  refine fn_body (names := [n "self", n "tabsize"]) (by rfl) rfl rfl (by rfl) ?_ rfl (by decide) (by rfl) rfl rfl rfl rfl rfl ?_
  · intro vs hv
    obtain ⟨a, b, rfl⟩ := len2 hv
    rfl
  intro L
  refine ex_cons (ex_assign_tuple (ev_attr (ev_name rfl ⟨76, wsNames, _, rfl, by rfl, 3, _, rfl, rfl, (by intro _ e; cases e), [n "count", n "trailing"], _, rfl, rfl, rfl, ?_, ?_⟩)))
  · intro y hy
    simp only [List.mem_cons, List.not_mem_nil, or_false] at hy
    rcases hy with rfl | rfl
    · exact .inl rfl
    · exact .inl rfl
  refine ex_cons (ex_assign (.inl rfl) (ev_int ?_))
  refine ex_mid (fun τ => τ (n "self") = some (.val (.obj 76 wsNames (wsVals l u))) ∧ τ (n "tabsize") = some (.val (.int ts)) ∧ τ (n "trailing") = some (.val (.int u.b)) ∧ τ (n "il") = some (.val (.int (ilv u.count ts)))) ?_ ?_
  · refine ex_for (fun items i τ => items = rngL ts u.count.length ∧ τ (n "self") = some (.val (.obj 76 wsNames (wsVals l u))) ∧ τ (n "tabsize") = some (.val (.int ts)) ∧ τ (n "trailing") = some (.val (.int u.b)) ∧ τ (n "count") = some (.val (.tup (natsV u.count))) ∧
        τ (n "il") = some (.val (.int (((List.range' ts i).map fun i => i / ts * u.count.getD i 0).sum : Nat))))
      (evi_range (ev_call (ev_blt rfl rfl rfl ⟨rfl, trivial, el_cons (ev_name rfl (el_cons (ev_call (ev_blt rfl rfl rfl ⟨rfl, trivial, el_cons (ev_name rfl (el_nil (fn_len_tup ?_ (el_nil (fn_range2 ⟨_, _, rfl, ?_, ⟨?_, rfl, rfl, rfl, rfl, rfl⟩, ?_, ?_⟩)))))⟩))))⟩)))
    · simp [natsV]; omega
    · refine small_one ?_ ?_ ?_ ?_ <;> simp [natsV] <;> omega
    · simp [natsV]
    · rintro i y τ hy ⟨_, t1, t2, t3, t4, t5⟩
      obtain ⟨rfl, hi⟩ := rngL_get hy
      have hi' : ts + i < u.count.length := by simp [natsV] at hi; omega
      refine ⟨.inl rfl, ex_cons (ex_assign (.inl rfl) (ev_binop (ev_name t5 (ev_binop (ev_binop (ev_name rfl (ev_name t2 (op_fdiv (by omega) (by omega) ?_))))))))⟩
      refine ev_item (ev_name t4 (ev_name rfl (it_tup (y := .int (u.count.getD (ts + i) 0 : Nat)) (by omega) (by simp [natsV]; omega) ?_ (op_mul (op_add (ex_nil ⟨by simp [natsV], t1, t2, t3, t4, ?_⟩)) ?_))))
      · have e : ((ts : Int) + (i : Nat)).toNat = ts + i := by omega
        rw [e]; simp [natsV, List.getD_eq_getElem?_getD, hi']
      · show some (Slot.val _) = _
        congr 2
        rw [List.range'_1_concat, List.map_append, List.sum_append]
        simp
      · apply mulOkL
        have : ((ts : Int) + (i : Nat)) / (ts : Nat) = ((ts + i) / ts : Nat) := by push_cast; rfl
        rw [this]
        have h3 : (ts + i) / ts ≤ ts + i := Nat.div_le_self _ _
        rw [Int.natAbs_natCast]
        omega
    · rintro τ ⟨_, t1, t2, t3, t4, t5⟩
      refine ⟨t1, t2, t3, ?_⟩
      rw [t5]
      congr 3
      unfold ilv
      rw [rngL_len]
      congr 2
      simp [natsV]
  · rintro τ ⟨t1, t2, t3, t4⟩
    refine ex_cons <| ex_return <| ev_binop <| ev_name t3 <| ev_binop <| ev_name t2 <| ev_binop <| ev_name t4 <| ev_attr <| ev_name t1 ⟨76, wsNames, _, rfl, by rfl, 2, _, rfl, rfl, (by intro _ e; cases e), op_add <| op_mul (op_add ?_) ?_⟩
    · have e : ((u.b : Int) + (ts : Nat) * ((ilv u.count ts : Nat) + (u.nt : Nat))) = (lvl u ts : Nat) := by unfold lvl; push_cast; rfl
      rw [e]; exact h
    · exact mulOkL (by simp; omega)
end Mine

namespace Mine
variable {w : World} {mean : ExcName → Option Value} {mg mb : Str → Option Value}
def spells : List (List Nat) := [lit "&<>", lit "&<>\"\r\n\t", lit "&>\"", lit "&<>\r", lit "&<\"\r\n\t", []]
def signs : List Nat := [38, 60, 62, 34, 13, 10, 9]
def dA : List (Nat × List Nat) := [(38, lit "amp"), (60, lit "lt"), (62, lit "gt"), (34, lit "quot"), (13, lit "#13"), (10, lit "#10"), (9, lit "#09")]
def dB : List (Nat × List Nat) := [(38, lit "amp"), (60, lit "lt"), (62, lit "gt"), (34, lit "quot"), (13, lit "#xD"), (10, lit "#xA"), (9, lit "#x9")]
abbrev pdA : List (PyData × PyData) := [(.str (Str.ofString "&"), .str (Str.ofString "amp")), (.str (Str.ofString "<"), .str (Str.ofString "lt")), (.str (Str.ofString ">"), .str (Str.ofString "gt")), (.str (Str.ofString "\""), .str (Str.ofString "quot")), (.str (Str.ofString "\r"), .str (Str.ofString "#13")), (.str (Str.ofString "\n"), .str (Str.ofString "#10")), (.str (Str.ofString "\t"), .str (Str.ofString "#09"))]
abbrev pdB : List (PyData × PyData) := [(.str (Str.ofString "&"), .str (Str.ofString "amp")), (.str (Str.ofString "<"), .str (Str.ofString "lt")), (.str (Str.ofString ">"), .str (Str.ofString "gt")), (.str (Str.ofString "\""), .str (Str.ofString "quot")), (.str (Str.ofString "\r"), .str (Str.ofString "#xD")), (.str (Str.ofString "\n"), .str (Str.ofString "#xA")), (.str (Str.ofString "\t"), .str (Str.ofString "#x9"))]
theorem pdA_nodup : (strKeysOf pdA).Nodup := by decide +kernel
theorem pdB_nodup : (strKeysOf pdB).Nodup := by decide +kernel
theorem pdA_look : ∀ ch ∈ signs, Spec.lookup (.str (S [ch])) pdA = some (.str (S ((dA.lookup ch).getD []))) := by
  intro ch hch
  simp only [signs, List.mem_cons, List.not_mem_nil, or_false] at hch
  rcases hch with rfl | rfl | rfl | rfl | rfl | rfl | rfl <;> kernel_rfl
theorem pdB_look : ∀ ch ∈ signs, Spec.lookup (.str (S [ch])) pdB = some (.str (S ((dB.lookup ch).getD []))) := by
  intro ch hch
  simp only [signs, List.mem_cons, List.not_mem_nil, or_false] at hch
  rcases hch with rfl | rfl | rfl | rfl | rfl | rfl | rfl <;> kernel_rfl
def nmOf (k ch : Nat) : List Nat := ((if 2 < k then dB else dA).lookup ch).getD []
def spellOf (k : Nat) : List Nat := spells.getD k []
def told1 (k ch : Nat) : List Nat := if ch ∈ spellOf k then 38 :: (nmOf k ch ++ [59]) else [ch]
def toldF (k : Nat) (l : List Nat) : List Nat := l.flatMap (told1 k)
theorem spell_signs : ∀ k < 6, ∀ ch ∈ spellOf k, ch ∈ signs ∧ (nmOf k ch).length ≤ 4 := by decide +kernel
theorem spell_len : ∀ k < 6, (spellOf k).length ≤ 7 := by decide +kernel
theorem findL_one_some {x : List Nat} {ch lo hi i : Nat} (h : findL x [ch] lo hi = some i) : ch ∈ x := by
  unfold findL at h
  have h2 := List.find?_some h
  unfold okL atL at h2
  simp only [Bool.and_eq_true, beq_iff_eq] at h2
  have h3 := h2.2
  cases hd : x.drop i with
  | nil => rw [hd] at h3; simp at h3
  | cons a r =>
    rw [hd] at h3
    have : a = ch := by simpa using h3
    subst this
    exact List.mem_of_mem_drop (i := i) (by rw [hd]; simp)
theorem one_in (x : List Nat) (ch : Nat) : (findL x [ch] 0 x.length).isSome = decide (ch ∈ x) := by
  cases h : findL x [ch] 0 x.length with
  | none => have := findL_one_none h; simp [this]
  | some i => have := findL_one_some h; simp [this]
theorem compσ_val {scope : Scope} {env : Env} {σ : Store} {x : Str} {y : V} (hf : scope.names.lookup x = some .free) (hk : env.kindOf x ≠ some .local) (h : σ x = some (.val y)) : compσ scope env σ x = some (.val y) := by
  unfold compσ
  rw [if_pos ⟨hf, hk⟩, h]
theorem set_ne {σ : Store} {a x : Str} {S T : Slot} (h1 : x ≠ a) (h : σ x = some T) : σ.set a S x = some T := by
  simp only [Store.set, if_neg h1]; exact h
theorem jn_nil : ∀ ts : List (List Nat), jn [] ts = ts.flatten
  | [] => rfl
  | [x] => by simp [jn]
  | x :: y :: r => by
    have := jn_nil (y :: r)
    show x ++ [] ++ jn [] (y :: r) = _
    rw [this]; simp
theorem join_ok {sep : List Nat} {ts : List (List Nat)} (h : ts.flatten.length + ts.length ≤ 1000000) (hs : sep.length ≤ 16) : JoinOk (S sep) (ts.map S) = true := by
  refine joinOk_of_weight ?_ (by rw [S_len]; exact hs)
  have : ((ts.map S).map (·.length)).sum = ts.flatten.length := by
    rw [List.length_flatten, List.map_map]
    congr 1
    first | done | exact List.map_congr_left fun x _ => S_len x
  rw [this, List.length_map]; omega
theorem toldF_len {k : Nat} (hk : k < 6) : ∀ l : List Nat, (toldF k l).length ≤ 6 * l.length
  | [] => by simp [toldF]
  | ch :: l => by
    have ih := toldF_len hk l
    unfold toldF at ih ⊢
    rw [List.flatMap_cons, List.length_append, List.length_cons]
    have : (told1 k ch).length ≤ 6 := by
      unfold told1; split
      · rename_i h; have := (spell_signs k hk ch h).2; simp; omega
      · simp
    omega
def toldV (k : Nat) : V → V
  | .str [ch] => .str (told1 k ch)
  | x => x
theorem kcell : ∀ x : NameKind, x = .cell → (some x : Option NameKind) ≠ some .local := fun x e => by subst e; decide
theorem fn_told {l : List Nat} {k d : Nat} {Φ : V → Prop} (hk : k < 6) (hl : l.length ≤ 10000) (h : Φ (.str (toldF k l))) : Fn (cx w mean mg mb) (d + 1) (.ref 141) [.int k, .str l] Φ := by
  have hsz : sizeLine = 16777216 := by decide
  refine fn_body (names := [n "which", n "text"]) (by rfl) rfl rfl (by rfl) ?_ rfl (by decide) (by rfl) rfl rfl rfl rfl rfl ?_
  · intro vs hv
    obtain ⟨a, b, rfl⟩ := len2 hv
    rfl
  intro L
  have hsp : [V.str (Str.ofString "&<>").cps.toList, V.str (Str.ofString "&<>\"\r\n\t").cps.toList, V.str (Str.ofString "&>\"").cps.toList, V.str (Str.ofString "&<>\r").cps.toList, V.str (Str.ofString "&<\"\r\n\t").cps.toList, V.str (Str.ofString "").cps.toList][((k : Nat) : Int).toNat]? = some (.str (spellOf k)) := by
    match k, hk with
    | 0, _ => rfl
    | 1, _ => rfl
    | 2, _ => rfl
    | 3, _ => rfl
    | 4, _ => rfl
    | 5, _ => rfl
  refine ex_cons <| ex_assign (.inr ⟨rfl, _, rfl⟩) <| ev_item <| ev_list <| el_cons <| ev_str <| el_cons <| ev_str <| el_cons <| ev_str <| el_cons <| ev_str <| el_cons <| ev_str <| el_cons <| ev_str <| el_nil ⟨Nat.le_of_ble_eq_true rfl, ev_name rfl <| it_list (y := .str (spellOf k)) (by omega) (Nat.le_of_ble_eq_true rfl) hsp ?_⟩
  refine ex_mid (fun τ => τ (n "text") = some (.val (.str l)) ∧ τ (n "spelled") = some (.val (.str (spellOf k))) ∧ τ (n "names") = some (.val (.sd (if 2 < k then pdB else pdA)))) ?m1 ?m2
  case m1 =>
    refine ex_if <| et_cmp <| ev_name rfl <| ev_int <| op_gt <| tt_bool <| ite_both (fun e1 => ?_) fun e1 => ?_
    · have e2 : 2 < k := by simp at e1; omega
      rw [if_pos e2]
      refine ex_cons ?_
      with_reducible refine ex_assign ?aa ?bb ?cc
      case aa => exact .inr ⟨rfl, _, rfl⟩
      case cc => rfl
      with_reducible refine ev_dict (D := pdB) ?r1 ?r0 ?r2 pdB_nodup ?r4 ?r5 ?r6 ?r7
      case r1 => rfl
      case r2 => rfl
      case r4 => rfl
      case r5 => rfl
      case r6 => simp
      case r7 => decide
      exact ex_nil ⟨rfl, rfl, rfl⟩
    · have e2 : ¬ 2 < k := by simp at e1; omega
      rw [if_neg e2]
      refine ex_cons ?_
      with_reducible refine ex_assign ?a ?b ?c
      case a => exact .inr ⟨rfl, _, rfl⟩
      case c => rfl
      with_reducible refine ev_dict (D := pdA) ?q1 ?q0 ?q2 pdA_nodup ?q4 ?q5 ?q6 ?q7
      case q1 => rfl
      case q2 => rfl
      case q4 => rfl
      case q5 => rfl
      case q6 => simp
      case q7 => decide
      exact ex_nil ⟨rfl, rfl, rfl⟩
  rintro τ ⟨t1, t2, t3⟩
  refine ex_cons <| ex_return <| ev_smeth F.slot_str_join F.type_str_join <| ev_str ⟨⟨_, rfl⟩, el_cons <| EvF.ev <| ef_comp _ <| evi_str <| ev_name t1 ⟨_, rfl, CompOk.map (toldV k) (by rw [List.length_map]; omega) (fun C y hy => ?_) ?_⟩⟩
  · obtain ⟨ch, hch, rfl⟩ := List.mem_map.mp hy
    refine ⟨rfl, ev_ifexp <| et_cmp <| ev_name rfl <| ev_name (y := .str (spellOf k)) ?_ <| op_ins <| tt_bool ?_⟩
    · exact set_ne (by decide) (compσ_val rfl (kcell _ rfl) t2)
    rw [one_in]
    refine ite_both (fun e => ?_) fun e => ?_
    · have hm : ch ∈ spellOf k := of_decide_eq_true e
      have hsg := spell_signs k hk ch hm
      have hlk : Spec.lookup (.str (S [ch])) (if 2 < k then pdB else pdA) = some (.str (S (nmOf k ch))) := by
        unfold nmOf; split
        · exact pdB_look ch hsg.1
        · exact pdA_look ch hsg.1
      refine ev_binop <| ev_binop <| ev_str <| ev_item <| ev_name (y := .sd (if 2 < k then pdB else pdA)) ?_ <| ev_name rfl <| it_sd hlk <| op_adds ?_ <| ev_str <| op_adds ?_ ?_
      · exact set_ne (by decide) (compσ_val rfl (kcell _ rfl) t3)
      · show 1 + _ ≤ _; have := hsg.2; omega
      · show (_ ++ _ : List Nat).length + 1 ≤ _
        rw [List.length_append]; show 1 + _ + 1 ≤ _; have := hsg.2; omega
      · show _ = V.str (told1 k ch)
        rw [told1, if_pos hm]; rfl
    · have hm : ch ∉ spellOf k := of_decide_eq_false e
      refine ev_name rfl ?_
      show _ = V.str (told1 k ch)
      rw [told1, if_neg hm]
  have e1 : (l.map fun ch => V.str [ch]).map (toldV k) = (l.map (told1 k)).map .str := by rw [List.map_map, List.map_map]; rfl
  rw [e1]
  have hlen := toldF_len hk l
  have hfl : (l.map (told1 k)).flatten = toldF k l := by rw [toldF, List.flatMap_def]
  refine el_nil <| fn_join (sep := []) (join_ok (by rw [hfl, List.length_map]; omega) (by decide)) ?_
  rw [joinL_eq, jn_nil, hfl]
  exact h
end Mine

namespace Mine
variable {w : World} {mean : ExcName → Option Value} {mg mb : Str → Option Value}
theorem op_eqnN {c : Cx} {d : Nat} {Φ : V → Prop} {x y : List Nat} {a b : Nat} (h : Φ (.bool (decide (x = y) && decide (a = b)))) : Op2 c d (compareOp .Eq) (.tup [.tup (natsV x), .int (a : Nat)]) (.tup [.tup (natsV y), .int (b : Nat)]) Φ := by
  have e : ∀ x : List Nat, V.tup (natsV x) = tupI (x.map fun k : Nat => (k : Int)) := fun x => by unfold tupI natsV; rw [List.map_map]; rfl
  rw [e x, e y]
  refine op_eqn ?_
  have e1 : decide ((x.map fun k : Nat => (k : Int)) = y.map fun k : Nat => (k : Int)) = decide (x = y) := by
    apply decide_eq_decide.mpr
    constructor
    · intro h
      exact (List.map_inj_right (fun a b h => Int.ofNat.inj h)).mp h
    · intro h; rw [h]
  have e2 : decide (((a : Nat) : Int) = (b : Nat)) = decide (a = b) := by
    apply decide_eq_decide.mpr; omega
  rw [e1, e2]; exact h
abbrev wObj (l : List Nat) (u : WS) : V := .obj 76 wsNames (wsVals l u)
theorem fn_longest {l : List Nat} {u : WS} {m d : Nat} {Φ : V → Prop} (hc : u.count.length ≤ 1000) (hm : max ((u.count.length : Int) - 1) (u.b : Nat) = ((m : Nat) : Int)) (h : Φ (.int m)) : Fn (cx w mean mg mb) (d + 1) (.ref 38) [wObj l u] Φ := by
  have hsz : sizeLine = 16777216 := by decide
  refine fn_body (names := [n "self"]) (by rfl) rfl rfl (by rfl) ?_ rfl (by decide) (by rfl) rfl rfl rfl rfl rfl ?_
  · intro vs hv
    obtain ⟨a, rfl⟩ := len1 hv
    rfl
  intro L
  refine ex_cons (ex_assign_tuple (ev_attr (ev_name rfl ⟨76, wsNames, _, rfl, by rfl, 3, _, rfl, rfl, (by intro _ e; cases e), [n "count", n "trailing"], _, rfl, rfl, rfl, ?_, ?_⟩)))
  · intro y hy
    simp only [List.mem_cons, List.not_mem_nil, or_false] at hy
    rcases hy with rfl | rfl
    · exact .inl rfl
    · exact .inl rfl
  have hl : (natsV u.count).length = u.count.length := natsV_len _
  refine ex_cons <| ex_return <| ev_call <| ev_blt rfl rfl rfl ⟨rfl, trivial, el_cons <| ev_binop <| ev_call <| ev_blt rfl rfl rfl ⟨rfl, trivial, el_cons <| ev_name rfl <| el_nil <| fn_len_tup (by omega) <| ev_int <| op_sub <| el_cons <| ev_name rfl <| el_nil <| fn_max2 ?_⟩⟩
  rw [hl, hm]; exact h
theorem fn_equal {l l' : List Nat} {u v : WS} {d : Nat} {Φ : V → Prop} (h : Φ (.bool (decide (u.count = v.count) && decide (u.b = v.b)))) : Fn (cx w mean mg mb) (d + 1) (.ref 52) [wObj l u, wObj l' v] Φ := by
  refine fn_body (names := [n "self", n "other"]) (by rfl) rfl rfl (by rfl) ?_ rfl (by decide) (by rfl) rfl rfl rfl rfl rfl ?_
  · intro vs hv
    obtain ⟨a, b, rfl⟩ := len2 hv
    rfl
  intro L
  exact ex_cons <| ex_return <| ev_cmp <| ev_attr <| ev_name rfl ⟨76, wsNames, _, rfl, by rfl, 3, _, rfl, rfl, (by intro _ e; cases e), ev_attr <| ev_name rfl ⟨76, wsNames, _, rfl, by rfl, 3, _, rfl, rfl, (by intro _ e; cases e), op_eqnN h⟩⟩
def rowT (u v : WS) (ts : Nat) : List Int := [(ts : Nat), (lvl u ts : Nat), (lvl v ts : Nat)]
def wit (p : Nat → Bool) (u v : WS) (k : Nat) : List (List Int) := (((List.range k).map (· + 1)).filter p).map (rowT u v)
theorem wit_succ (p : Nat → Bool) (u v : WS) (k : Nat) : wit p u v (k + 1) = wit p u v k ++ (if p (k + 1) = true then [rowT u v (k + 1)] else []) := by
  unfold wit
  rw [List.range_succ, List.map_append, List.filter_append, List.map_append]
  congr 1
  simp only [List.map_cons, List.map_nil, List.filter_cons, List.filter_nil]
  split <;> simp
theorem wit_len (p : Nat → Bool) (u v : WS) (k : Nat) : (wit p u v k).length ≤ k := by
  unfold wit
  rw [List.length_map]
  refine Nat.le_trans (List.length_filter_le _ _) ?_
  simp
theorem rng1 {k i : Nat} {y : V} (h : (rngL 1 ((k : Nat) + 1))[i]? = some y) : y = .int ((i + 1 : Nat) : Int) ∧ i + 1 ≤ k := by
  obtain ⟨h1, h2⟩ := rngL_get h
  exact ⟨by rw [h1, show (1 : Int) + (i : Nat) = ((i + 1 : Nat) : Int) by omega], by omega⟩
theorem max_nat {a b : Nat} : max ((a : Nat) : Int) (b : Nat) = ((max a b : Nat) : Int) := by omega
def fn_newP (u v : WS) (ts : Nat) : Bool := decide (lvl u ts ≠ lvl v ts)
theorem fn_new {l l' : List Nat} {u v : WS} {m m' d : Nat} {Φ : V → Prop} (hc : u.count.length ≤ 1000) (hc' : v.count.length ≤ 1000) (hm : max ((u.count.length : Int) - 1) (u.b : Nat) = ((m : Nat) : Int)) (hm' : max ((v.count.length : Int) - 1) (v.b : Nat) = ((m' : Nat) : Int)) (hM : max m m' ≤ 1000)
    (h : Φ (.list ((wit (fn_newP u v) u v (max m m' + 1)).map tupI))) : Fn (cx w mean mg mb) (d + 2) (.ref 59) [wObj l u, wObj l' v] Φ := by
  have hsz : sizeLine = 16777216 := by decide
  refine fn_body (names := [n "self", n "other"]) (by rfl) rfl rfl (by rfl) ?_ rfl (by decide) (by rfl) rfl rfl rfl rfl rfl ?_
  · intro vs hv
    obtain ⟨a, b, rfl⟩ := len2 hv
    rfl
  intro L
  refine ex_cons <| ex_assign (.inl rfl) <| ev_binop <| ev_call <| ev_blt rfl rfl rfl ⟨rfl, trivial, el_cons <| ev_ometh0 (f := 38) <| ev_name rfl ⟨⟨76, wsNames, _, rfl, by decide, by rfl, by rfl⟩, fn_longest hc hm <| el_cons <| ev_ometh0 (f := 38) <| ev_name rfl ⟨⟨76, wsNames, _, rfl, by decide, by rfl, by rfl⟩, fn_longest hc' hm' <| el_nil <| fn_max2 <| ev_int <| op_add ?_⟩⟩⟩
  rw [max_nat]
  refine ex_cons <| ex_assign_own (.inl rfl) <| ef_list <| el_nil ⟨Nat.le_of_ble_eq_true rfl, ?_⟩
  refine ex_mid (fun τ => τ (n "a") = some (.own ((wit (fn_newP u v) u v (max m m' + 1)).map tupI))) ?m1 ?m2
  case m2 => intro τ t1; exact ex_freeze t1 <| ex_cons <| ex_return <| ev_name rfl h
  refine ex_for (fun items i τ => items = rngL 1 (((max m m' + 1 : Nat) : Int) + 1) ∧ τ (n "self") = some (.val (wObj l u)) ∧ τ (n "other") = some (.val (wObj l' v)) ∧ τ (n "a") = some (.own ((wit (fn_newP u v) u v i).map tupI)))
    (evi_range <| ev_call <| ev_blt rfl rfl rfl ⟨rfl, trivial, el_cons <| ev_int <| el_cons <| ev_binop <| ev_name rfl <| ev_int <| op_add <| el_nil <| fn_range2 ⟨_, _, rfl, small_one (by decide) (by decide) (by omega) (by omega), ⟨rfl, rfl, rfl, rfl⟩, ?_, ?_⟩⟩)
  · rintro i y τ hy ⟨_, t1, t2, t3⟩
    obtain ⟨rfl, hi⟩ := rng1 (k := max m m' + 1) hy
    generalize hts : i + 1 = ts at hi
    refine ⟨.inl rfl, ?_⟩
    refine ex_cons <| ex_if <| et_cmp <| ev_ometh (f := 45) <| ev_name t1 ⟨⟨76, wsNames, _, rfl, by decide, by rfl, by rfl⟩, el_cons <| ev_name rfl <| el_nil <| fn_lvl (by omega) (by omega) (by omega) <| ev_ometh (f := 45) <| ev_name t2 ⟨⟨76, wsNames, _, rfl, by decide, by rfl, by rfl⟩, el_cons <| ev_name rfl <| el_nil <| fn_lvl (by omega) (by omega) (by omega) <| op_ne <| tt_bool <| ite_both (fun e => ?_) fun e => ?_⟩⟩
    · have hp : fn_newP u v ts = true := by unfold fn_newP; simp at e ⊢; omega
      refine ex_cons <| ex_append (l := (wit (fn_newP u v) u v i).map tupI) t3 (by rw [List.length_map]; have := wit_len (fn_newP u v) u v i; omega) <| ev_tuple <| el_cons <| ev_name rfl <| el_cons <| ev_ometh (f := 45) <| ev_name t1 ⟨⟨76, wsNames, _, rfl, by decide, by rfl, by rfl⟩, el_cons <| ev_name rfl <| el_nil <| fn_lvl (by omega) (by omega) (by omega) <| el_cons <| ev_ometh (f := 45) <| ev_name t2 ⟨⟨76, wsNames, _, rfl, by decide, by rfl, by rfl⟩, el_cons <| ev_name rfl <| el_nil <| fn_lvl (by omega) (by omega) (by omega) <| el_nil ⟨Nat.le_of_ble_eq_true rfl, ex_nil <| ex_nil ⟨rfl, t1, t2, ?_⟩⟩⟩⟩
      show some (Slot.own _) = some (Slot.own _)
      congr 2
      rw [← hts, wit_succ, hts, if_pos hp, List.map_append]
      rfl
    · have hp : ¬ fn_newP u v ts = true := by unfold fn_newP; simp at e ⊢; omega
      refine ex_nil <| ex_nil ⟨rfl, t1, t2, ?_⟩
      show τ (n "a") = _
      rw [← hts, wit_succ, hts, if_neg hp, List.append_nil]; exact t3
  · rintro τ ⟨_, t1, t2, t3⟩
    rw [rngL_len, show (((max m m' : Nat) : Int) + 1 + 1 - 1).toNat = max m m' + 1 by omega] at t3
    exact t3
def fn_nlwP (u v : WS) (ts : Nat) : Bool := decide (lvl v ts ≤ lvl u ts)
theorem fn_nlw {l l' : List Nat} {u v : WS} {m m' d : Nat} {Φ : V → Prop} (hc : u.count.length ≤ 1000) (hc' : v.count.length ≤ 1000) (hm : max ((u.count.length : Int) - 1) (u.b : Nat) = ((m : Nat) : Int)) (hm' : max ((v.count.length : Int) - 1) (v.b : Nat) = ((m' : Nat) : Int)) (hM : max m m' ≤ 1000)
    (h : Φ (.list ((wit (fn_nlwP u v) u v (max m m' + 1)).map tupI))) : Fn (cx w mean mg mb) (d + 2) (.ref 73) [wObj l u, wObj l' v] Φ := by
  have hsz : sizeLine = 16777216 := by decide
  refine fn_body (names := [n "self", n "other"]) (by rfl) rfl rfl (by rfl) ?_ rfl (by decide) (by rfl) rfl rfl rfl rfl rfl ?_
  · intro vs hv
    obtain ⟨a, b, rfl⟩ := len2 hv
    rfl
  intro L
  refine ex_cons <| ex_assign (.inl rfl) <| ev_binop <| ev_call <| ev_blt rfl rfl rfl ⟨rfl, trivial, el_cons <| ev_ometh0 (f := 38) <| ev_name rfl ⟨⟨76, wsNames, _, rfl, by decide, by rfl, by rfl⟩, fn_longest hc hm <| el_cons <| ev_ometh0 (f := 38) <| ev_name rfl ⟨⟨76, wsNames, _, rfl, by decide, by rfl, by rfl⟩, fn_longest hc' hm' <| el_nil <| fn_max2 <| ev_int <| op_add ?_⟩⟩⟩
  rw [max_nat]
  refine ex_cons <| ex_assign_own (.inl rfl) <| ef_list <| el_nil ⟨Nat.le_of_ble_eq_true rfl, ?_⟩
  refine ex_mid (fun τ => τ (n "a") = some (.own ((wit (fn_nlwP u v) u v (max m m' + 1)).map tupI))) ?m1 ?m2
  case m2 => intro τ t1; exact ex_freeze t1 <| ex_cons <| ex_return <| ev_name rfl h
  refine ex_for (fun items i τ => items = rngL 1 (((max m m' + 1 : Nat) : Int) + 1) ∧ τ (n "self") = some (.val (wObj l u)) ∧ τ (n "other") = some (.val (wObj l' v)) ∧ τ (n "a") = some (.own ((wit (fn_nlwP u v) u v i).map tupI)))
    (evi_range <| ev_call <| ev_blt rfl rfl rfl ⟨rfl, trivial, el_cons <| ev_int <| el_cons <| ev_binop <| ev_name rfl <| ev_int <| op_add <| el_nil <| fn_range2 ⟨_, _, rfl, small_one (by decide) (by decide) (by omega) (by omega), ⟨rfl, rfl, rfl, rfl⟩, ?_, ?_⟩⟩)
  · rintro i y τ hy ⟨_, t1, t2, t3⟩
    obtain ⟨rfl, hi⟩ := rng1 (k := max m m' + 1) hy
    generalize hts : i + 1 = ts at hi
    refine ⟨.inl rfl, ?_⟩
    refine ex_cons <| ex_if <| et_cmp <| ev_ometh (f := 45) <| ev_name t1 ⟨⟨76, wsNames, _, rfl, by decide, by rfl, by rfl⟩, el_cons <| ev_name rfl <| el_nil <| fn_lvl (by omega) (by omega) (by omega) <| ev_ometh (f := 45) <| ev_name t2 ⟨⟨76, wsNames, _, rfl, by decide, by rfl, by rfl⟩, el_cons <| ev_name rfl <| el_nil <| fn_lvl (by omega) (by omega) (by omega) <| op_ge <| tt_bool <| ite_both (fun e => ?_) fun e => ?_⟩⟩
    · have hp : fn_nlwP u v ts = true := by unfold fn_nlwP; simp at e ⊢; omega
      refine ex_cons <| ex_append (l := (wit (fn_nlwP u v) u v i).map tupI) t3 (by rw [List.length_map]; have := wit_len (fn_nlwP u v) u v i; omega) <| ev_tuple <| el_cons <| ev_name rfl <| el_cons <| ev_ometh (f := 45) <| ev_name t1 ⟨⟨76, wsNames, _, rfl, by decide, by rfl, by rfl⟩, el_cons <| ev_name rfl <| el_nil <| fn_lvl (by omega) (by omega) (by omega) <| el_cons <| ev_ometh (f := 45) <| ev_name t2 ⟨⟨76, wsNames, _, rfl, by decide, by rfl, by rfl⟩, el_cons <| ev_name rfl <| el_nil <| fn_lvl (by omega) (by omega) (by omega) <| el_nil ⟨Nat.le_of_ble_eq_true rfl, ex_nil <| ex_nil ⟨rfl, t1, t2, ?_⟩⟩⟩⟩
      show some (Slot.own _) = some (Slot.own _)
      congr 2
      rw [← hts, wit_succ, hts, if_pos hp, List.map_append]
      rfl
    · have hp : ¬ fn_nlwP u v ts = true := by unfold fn_nlwP; simp at e ⊢; omega
      refine ex_nil <| ex_nil ⟨rfl, t1, t2, ?_⟩
      show τ (n "a") = _
      rw [← hts, wit_succ, hts, if_neg hp, List.append_nil]; exact t3
  · rintro τ ⟨_, t1, t2, t3⟩
    rw [rngL_len, show (((max m m' : Nat) : Int) + 1 + 1 - 1).toNat = max m m' + 1 by omega] at t3
    exact t3
theorem fn_less {l l' : List Nat} {u v : WS} {m m' d : Nat} {Φ : V → Prop} {R : Bool} (hc : u.count.length ≤ 1000) (hc' : v.count.length ≤ 1000) (hm : max ((u.count.length : Int) - 1) (u.b : Nat) = ((m : Nat) : Int)) (hm' : max ((v.count.length : Int) - 1) (v.b : Nat) = ((m' : Nat) : Int)) (hM : max m m' ≤ 1000)
    (h1 : v.n ≤ u.n → R = false) (h2 : u.n < v.n → u.count.length ≤ 1 → v.count.length ≤ 1 → R = decide (u.nt ≤ v.nt)) (h3 : u.n < v.n → (∀ ts, 2 ≤ ts → ts ≤ max m m' + 1 → lvl u ts < lvl v ts) → R = true) (h4 : ∀ ts, 2 ≤ ts → ts ≤ max m m' + 1 → lvl v ts ≤ lvl u ts → R = false)
    (h : Φ (.bool R)) : Fn (cx w mean mg mb) (d + 2) (.ref 66) [wObj l u, wObj l' v] Φ := by
  have hsz : sizeLine = 16777216 := by decide
  refine fn_body (names := [n "self", n "other"]) (by rfl) rfl rfl (by rfl) ?_ rfl (by decide) (by rfl) rfl rfl rfl rfl rfl ?_
  · intro vs hv
    obtain ⟨a, b, rfl⟩ := len2 hv
    rfl
  intro L
  refine ex_cons <| ex_if <| et_cmp <| ev_attr <| ev_name rfl ⟨76, wsNames, _, rfl, by rfl, 1, _, rfl, rfl, (by intro _ e; cases e), ev_attr <| ev_name rfl ⟨76, wsNames, _, rfl, by rfl, 1, _, rfl, rfl, (by intro _ e; cases e), op_ge <| tt_bool <| ite_both (fun e => ?_) fun e => ?_⟩⟩
  · refine ex_cons <| ex_return <| ev_bool ?_
    have := h1 (by have := of_decide_eq_true e; omega)
    rw [← this]; exact h
  have hn : u.n < v.n := by have := of_decide_eq_false e; omega
  refine ex_nil ?_
  refine ex_mid (fun τ => τ (n "self") = some (.val (wObj l u)) ∧ τ (n "other") = some (.val (wObj l' v))) ?m1 ?m2
  case m1 =>
    refine ex_if <| et_and <| et_plain <| ev_attr <| ev_name rfl ⟨76, wsNames, _, rfl, by rfl, 4, _, rfl, rfl, (by intro _ e; cases e), tt_bool <| ite_both (fun e => ?_) fun e => ?_⟩
    · refine et_plain <| ev_attr <| ev_name rfl ⟨76, wsNames, _, rfl, by rfl, 4, _, rfl, rfl, (by intro _ e; cases e), tt_bool <| ite_both (fun e' => ?_) fun e' => ?_⟩
      · refine ex_cons <| ex_return <| ev_cmp <| ev_attr <| ev_name rfl ⟨76, wsNames, _, rfl, by rfl, 2, _, rfl, rfl, (by intro _ e; cases e), ev_attr <| ev_name rfl ⟨76, wsNames, _, rfl, by rfl, 2, _, rfl, rfl, (by intro _ e; cases e), op_le ?_⟩⟩
        have := h2 hn (by have := of_decide_eq_true e; omega) (by have := of_decide_eq_true e'; omega)
        have e3 : decide (((u.nt : Nat) : Int) ≤ (v.nt : Nat)) = decide (u.nt ≤ v.nt) := by apply decide_eq_decide.mpr; omega
        rw [e3, ← this]; exact h
      · exact ex_nil ⟨rfl, rfl⟩
    · exact ex_nil ⟨rfl, rfl⟩
  rintro τ ⟨t1, t2⟩
  refine ex_cons <| ex_assign (.inl rfl) <| ev_binop <| ev_call <| ev_blt rfl rfl rfl ⟨rfl, trivial, el_cons <| ev_ometh0 (f := 38) <| ev_name t1 ⟨⟨76, wsNames, _, rfl, by decide, by rfl, by rfl⟩, fn_longest hc hm <| el_cons <| ev_ometh0 (f := 38) <| ev_name t2 ⟨⟨76, wsNames, _, rfl, by decide, by rfl, by rfl⟩, fn_longest hc' hm' <| el_nil <| fn_max2 <| ev_int <| op_add ?_⟩⟩⟩
  rw [max_nat]
  refine ex_mid (fun τ => ∀ ts, 2 ≤ ts → ts ≤ max m m' + 1 → lvl u ts < lvl v ts) ?k1 ?k2
  case k2 =>
    intro τ t
    refine ex_cons <| ex_return <| ev_bool ?_
    rw [← h3 hn t]; exact h
  refine ex_for (fun items i τ => items = rngL 2 (((max m m' + 1 : Nat) : Int) + 1) ∧ τ (n "self") = some (.val (wObj l u)) ∧ τ (n "other") = some (.val (wObj l' v)) ∧ ∀ ts, 2 ≤ ts → ts < 2 + i → lvl u ts < lvl v ts)
    (evi_range <| ev_call <| ev_blt rfl rfl rfl ⟨rfl, trivial, el_cons <| ev_int <| el_cons <| ev_binop <| ev_name rfl <| ev_int <| op_add <| el_nil <| fn_range2 ⟨_, _, rfl, small_one (by decide) (by decide) (by omega) (by omega), ⟨rfl, t1, t2, fun ts a b => by omega⟩, ?_, ?_⟩⟩)
  · rintro i y τ hy ⟨_, t1, t2, t3⟩
    obtain ⟨rfl, hi⟩ := rngL_get hy
    obtain ⟨ts, hts⟩ : ∃ ts, ts = i + 2 := ⟨_, rfl⟩
    rw [show (2 : Int) + (i : Nat) = (ts : Nat) by omega]
    refine ⟨.inl rfl, ?_⟩
    refine ex_cons <| ex_if <| et_cmp <| ev_ometh (f := 45) <| ev_name t1 ⟨⟨76, wsNames, _, rfl, by decide, by rfl, by rfl⟩, el_cons <| ev_name rfl <| el_nil <| fn_lvl (by omega) (by omega) (by omega) <| ev_ometh (f := 45) <| ev_name t2 ⟨⟨76, wsNames, _, rfl, by decide, by rfl, by rfl⟩, el_cons <| ev_name rfl <| el_nil <| fn_lvl (by omega) (by omega) (by omega) <| op_ge <| tt_bool <| ite_both (fun e => ?_) fun e => ?_⟩⟩
    · refine ex_cons <| ex_return <| ev_bool ?_
      have := h4 ts (by omega) (by omega) (by have := of_decide_eq_true e; omega)
      rw [← this]; exact h
    · have e' := of_decide_eq_false e
      refine ex_nil <| ex_nil ⟨rfl, t1, t2, fun t a b => ?_⟩
      by_cases q : t = ts
      · subst q; omega
      · exact t3 t a (by omega)
  · rintro τ ⟨_, t1, t2, t3⟩
    rw [rngL_len] at t3
    intro ts a b
    exact t3 ts a (by omega)
end Mine

namespace Mine
variable {w : World} {mean : ExcName → Option Value} {mg mb : Str → Option Value}
theorem setAll2_ne {σ : Store} {a b x : Str} {y z : V} {T : Slot} (h1 : x ≠ a) (h2 : x ≠ b) (h : σ x = some T) : setAll σ [a, b] [y, z] x = some T := by
  simp only [setAll, Store.set, if_neg h1, if_neg h2]; exact h
def runsOf (N : Nat) : List Nat := ([N / 16 % 5, N / 80 % 5, N / 400 % 5].take (N % 4)) ++ [N / 4 % 4]
theorem fn_runs {N d : Nat} {Φ : V → Prop} (h : Φ (.list (natsV (runsOf N)))) : Fn (cx w mean mg mb) (d + 1) (.ref 148) [.int N] Φ := by
  have hsz : sizeLine = 16777216 := by decide
  refine fn_body (names := [n "number"]) (by rfl) rfl rfl (by rfl) ?_ rfl (by decide) (by rfl) rfl rfl rfl rfl rfl ?_
  · intro vs hv
    obtain ⟨a, rfl⟩ := len1 hv
    rfl
  intro L
  refine ex_cons <| ex_return <| EvF.ev <| ef_binop <| ev_slice <| ev_list <| el_cons <| ev_binop <| ev_binop <| ev_name rfl <| ev_int <| op_fdiv (by decide) (by decide) <| ev_int <| op_mod (by decide) <|
    el_cons <| ev_binop <| ev_binop <| ev_name rfl <| ev_int <| op_fdiv (by decide) (by decide) <| ev_int <| op_mod (by decide) <|
    el_cons <| ev_binop <| ev_binop <| ev_name rfl <| ev_int <| op_fdiv (by decide) (by decide) <| ev_int <| op_mod (by decide) <|
    el_nil ⟨Nat.le_of_ble_eq_true rfl, ev_binop <| ev_name rfl <| ev_int <| op_mod (by decide) ⟨_, rfl, sl_list (Nat.le_of_ble_eq_true rfl) (by decide) ?_⟩⟩
  rw [show ((N : Nat) : Int) % 4 = ((N % 4 : Nat) : Int) by push_cast; rfl, pickV_upto]
  refine ev_list <| el_cons <| ev_binop <| ev_binop <| ev_name rfl <| ev_int <| op_fdiv (by decide) (by decide) <| ev_int <| op_mod (by decide) <| el_nil ⟨Nat.le_of_ble_eq_true rfl, opf_addl ?_ ?_⟩
  · rw [List.length_take]; simp; omega
  · show Φ (.list _)
    have e : ([V.int (((N : Nat) : Int) / 16 % 5), V.int (((N : Nat) : Int) / 80 % 5), V.int (((N : Nat) : Int) / 400 % 5)].take (N % 4) ++ [V.int (((N : Nat) : Int) / 4 % 4)]) = natsV (runsOf N) := by
      unfold natsV runsOf
      rw [List.map_append, List.map_take]
      rfl
    rw [e]; exact h
def bump (runs : List Nat) (j : Nat) : List Nat := (runs.zipIdx).map fun p => if p.2 = j then p.1 + 1 else p.1
def otherOf (runs : List Nat) (N : Nat) : List Nat := if N % 3 = 0 then runs.dropLast.reverse ++ runs.drop (runs.length - 1) else if N % 3 = 1 then bump runs (N / 3 % runs.length) else runsOf (N / 3)
def bumpV (j : Nat) : V → V
  | .tup [.int k, .int r] => if k = ((j : Nat) : Int) then .int (r + 1) else .int r
  | x => x
theorem bump_eq (runs : List Nat) (j : Nat) : (enumL (natsV runs)).map (bumpV j) = natsV (bump runs j) := by
  unfold enumL natsV bump
  rw [List.zipIdx_map, List.map_map, List.map_map, List.map_map]
  apply List.map_congr_left
  rintro ⟨r, k⟩ _
  show (if ((k : Nat) : Int) = ((j : Nat) : Int) then V.int (((r : Nat) : Int) + 1) else V.int ((r : Nat) : Int)) = V.int ((if k = j then r + 1 else r : Nat) : Int)
  by_cases e : k = j
  · subst e; rw [if_pos rfl, if_pos rfl]; rfl
  · rw [if_neg e, if_neg (by omega)]
theorem natsV_drop (l : List Nat) (k : Nat) : (natsV l).drop k = natsV (l.drop k) := by unfold natsV; rw [List.map_drop]
theorem fn_other {runs : List Nat} {N d : Nat} {Φ : V → Prop} (hr : runs ≠ []) (hl : runs.length ≤ 100) (h : Φ (.list (natsV (otherOf runs N)))) : Fn (cx w mean mg mb) (d + 2) (.ref 153) [.list (natsV runs), .int N] Φ := by
  have hsz : sizeLine = 16777216 := by decide
  have hnl := natsV_len runs
  have hpos : 0 < runs.length := List.length_pos_iff.mpr hr
  refine fn_body (names := [n "runs", n "number"]) (by rfl) rfl rfl (by rfl) ?_ rfl (by decide) (by rfl) rfl rfl rfl rfl rfl ?_
  · intro vs hv
    obtain ⟨a, b, rfl⟩ := len2 hv
    rfl
  intro L
  refine ex_cons <| ex_if <| et_cmp <| ev_binop <| ev_name rfl <| ev_int <| op_mod (by decide) <| ev_int <| op_eq <| tt_bool <| ite_both (fun e => ?_) fun e => ?_
  · have e1 : N % 3 = 0 := by simp at e; omega
    refine ex_cons <| ex_return <| EvF.ev <| ef_binop <| ev_slice <| ev_slice <| ev_name rfl <| ev_unary <| ev_int <| op_neg ⟨_, rfl, sl_list (by omega) (by decide) ?_⟩
    rw [show (-1 : Int) = -1 by rfl, pickV_init]
    refine ev_unary <| ev_int <| op_neg ⟨_, rfl, sl_list (by rw [List.length_dropLast]; omega) (by decide) ?_⟩
    rw [pickV_rev]
    refine ev_slice <| ev_name rfl <| ev_unary <| ev_int <| op_neg ⟨_, rfl, sl_list (by omega) (by decide) ?_⟩
    rw [pickV_last]
    refine opf_addl ?_ ?_
    · rw [List.length_reverse, List.length_dropLast, List.length_drop]; omega
    · show Φ (.list _)
      have e2 : (natsV runs).dropLast.reverse ++ (natsV runs).drop ((natsV runs).length - 1) = natsV (otherOf runs N) := by
        unfold otherOf
        rw [if_pos e1, hnl]
        unfold natsV
        rw [List.map_append, List.map_reverse, List.map_dropLast, List.map_drop]
      rw [e2]; exact h
  have e1 : ¬ N % 3 = 0 := by simp at e; omega
  refine ex_nil ?_
  refine ex_cons <| ex_if <| et_cmp <| ev_binop <| ev_name rfl <| ev_int <| op_mod (by decide) <| ev_int <| op_eq <| tt_bool <| ite_both (fun e' => ?_) fun e' => ?_
  · have e2 : N % 3 = 1 := by simp at e'; omega
    refine ex_cons <| ex_return <| EvF.ev <| ef_comp _ <| evi_enum <| ev_blt rfl rfl rfl ⟨rfl, ev_name rfl ⟨_, rfl, CompOk.map (bumpV (N / 3 % runs.length)) (by simp [enumL]; omega) (fun C y hy => ?_) ?_⟩⟩
    · obtain ⟨i, hi⟩ := List.getElem?_of_mem hy
      unfold enumL natsV at hi
      rw [List.zipIdx_map, List.map_map, List.getElem?_map] at hi
      obtain ⟨⟨r, k⟩, _, hy2⟩ := Option.map_eq_some_iff.mp hi
      have hy3 : y = V.tup [.int ((k : Nat) : Int), .int ((r : Nat) : Int)] := hy2.symm
      clear hi hy2
      subst hy3
      refine ⟨[n "k", n "run"], _, rfl, rfl, rfl, by decide, ?_⟩
      refine ev_ifexp <| et_cmp <| ev_name rfl <| ev_binop <| ev_binop <| ev_name (y := .int (N : Nat)) ?_ <| ev_int <| op_fdiv (by decide) (by decide) <| ev_call <| ev_blt rfl rfl rfl ⟨rfl, trivial, el_cons <| ev_name (y := .list (natsV runs)) ?_ <| el_nil <| fn_len_list (by omega) <| op_mod (by omega) ?_⟩
      · exact setAll2_ne (by decide) (by decide) (compσ_val rfl (kcell _ rfl) rfl)
      · exact setAll2_ne (by decide) (by decide) (compσ_val rfl (kcell _ rfl) rfl)
      rw [hnl, show ((N : Nat) : Int) / 3 % ((runs.length : Nat) : Int) = ((N / 3 % runs.length : Nat) : Int) by push_cast; rfl]
      refine op_eq <| tt_bool <| ite_both (fun q => ?_) fun q => ?_
      · refine ev_binop <| ev_name rfl <| ev_int <| op_add ?_
        show _ = (if ((k : Nat) : Int) = ((N / 3 % runs.length : Nat) : Int) then V.int (((r : Nat) : Int) + 1) else V.int ((r : Nat) : Int))
        rw [if_pos (eq_of_beq q)]
      · refine ev_name rfl ?_
        show _ = (if ((k : Nat) : Int) = ((N / 3 % runs.length : Nat) : Int) then V.int (((r : Nat) : Int) + 1) else V.int ((r : Nat) : Int))
        rw [if_neg (ne_of_beq_false q)]
    · rw [bump_eq]
      have e3 : otherOf runs N = bump runs (N / 3 % runs.length) := by unfold otherOf; rw [if_neg e1, if_pos e2]
      rw [← e3]; exact h
  have e2 : ¬ N % 3 = 1 := by simp at e'; omega
  refine ex_nil ?_
  refine ex_cons <| ex_return <| ev_call <| ev_glob rfl rfl ⟨rfl, rfl, el_cons <| ev_binop <| ev_name rfl <| ev_int <| op_fdiv (by decide) (by decide) ?_⟩
  rw [show ((N : Nat) : Int) / 3 = ((N / 3 : Nat) : Int) by push_cast; rfl]
  have e3 : otherOf runs N = runsOf (N / 3) := by unfold otherOf; rw [if_neg e1, if_neg e2]
  rw [e3] at h
  exact el_nil <| fn_runs h
theorem tab_lit : (Str.ofString "\t").cps.toList = [9] := by decide +kernel
theorem xt1_lit : (Str.ofString "x\t").cps.toList = [120, 9] := by decide +kernel
theorem sp_lit : (Str.ofString " ").cps.toList = [32] := by decide +kernel
theorem repL_sp (k : Nat) : repL k [32] = List.replicate k 32 := by
  unfold repL
  induction k with
  | zero => rfl
  | succ k ih => rw [List.replicate_succ, List.flatten_cons, ih, List.replicate_succ]; rfl
def spV : V → V
  | .int k => .str (List.replicate k.toNat 32)
  | x => x
theorem fn_lead {runs : List Nat} {d : Nat} {Φ : V → Prop} (hl : runs.length ≤ 10) (h5 : ∀ r ∈ runs, r ≤ 5) (h : Φ (wObj (leadT runs ++ [120, 9]) (leadW runs))) : Fn (cx w mean mg mb) (d + 3) (.ref 158) [.list (natsV runs)] Φ := by
  have hsz : sizeLine = 16777216 := by decide
  have hnl := natsV_len runs
  refine fn_body (names := [n "runs"]) (by rfl) rfl rfl (by rfl) ?_ rfl (by decide) (by rfl) rfl rfl rfl rfl rfl ?_
  · intro vs hv
    obtain ⟨a, rfl⟩ := len1 hv
    rfl
  intro L
  refine ex_cons <| ex_return <| ev_call <| ev_glob rfl rfl ⟨rfl, rfl, el_cons <| ev_binop <| ev_smeth F.slot_str_join F.type_str_join <| ev_strL tab_lit ⟨⟨_, rfl⟩, el_cons <| EvF.ev <| ef_comp _ <| evi_list <| ev_name rfl ⟨_, rfl, trivial, CompOk.map spV (by omega) (fun C y hy => ?_) ?_⟩⟩⟩
  · unfold natsV at hy
    obtain ⟨r, hr, rfl⟩ := List.mem_map.mp hy
    have := h5 r hr
    refine ⟨rfl, ev_binop <| ev_strL sp_lit <| ev_name rfl <| op_muls (by rw [Int.toNat_natCast]; show 1 * r ≤ _; omega) (by omega) ?_⟩
    rw [Int.toNat_natCast, repL_sp]
    show _ = V.str (List.replicate ((r : Nat) : Int).toNat 32)
    rw [Int.toNat_natCast]
  have e1 : (natsV runs).map spV = (runs.map fun r => List.replicate r 32).map .str := by
    unfold natsV
    rw [List.map_map, List.map_map]
    apply List.map_congr_left
    intro r _
    show V.str (List.replicate ((r : Nat) : Int).toNat 32) = V.str (List.replicate r 32)
    rw [Int.toNat_natCast]
  rw [e1]
  have hfl : (runs.map fun r => List.replicate r 32).flatten.length ≤ 50 := by
    rw [List.length_flatten, List.map_map]
    have : ∀ l : List Nat, (∀ r ∈ l, r ≤ 5) → (l.map (List.length ∘ fun r => List.replicate r 32)).sum ≤ 5 * l.length := fun l hl5 => by
      induction l with
      | nil => simp
      | cons x l ih =>
        have h1 := hl5 x (by simp)
        have h2 := ih fun r hr => hl5 r (List.mem_cons_of_mem _ hr)
        rw [List.map_cons, List.sum_cons, List.length_cons]
        show (List.replicate x 32).length + _ ≤ _
        rw [List.length_replicate]; omega
    have := this runs h5; omega
  have hll := lead_len runs h5
  refine el_nil <| fn_join (join_ok (by rw [List.length_map]; omega) (by decide)) ?_
  rw [joinL_eq]
  show EvE _ _ _ _ _ _
  refine ev_strL xt1_lit <| op_adds (by show (leadT runs).length + 2 ≤ _; omega) <| el_nil <| fn_ws (by show (leadT runs ++ [120, 9]).length ≤ _; rw [List.length_append]; show _ + 2 ≤ _; omega) h
def pickF (ts : List (List Nat)) (size best k : Nat) : Nat := if (ts.getD best []).length ≤ (ts.getD k []).length ∧ (ts.getD k []).length ≤ size then k else best
def pickOf (ts : List (List Nat)) (size : Nat) : Nat := (List.range ts.length).foldl (pickF ts size) (ts.idxOf [97])
theorem pickF_lt {ts : List (List Nat)} {size best k : Nat} (h1 : best < ts.length) (h2 : k < ts.length) (h3 : (ts.getD best []).length ≤ size) : pickF ts size best k < ts.length ∧ (ts.getD (pickF ts size best k) []).length ≤ size := by
  unfold pickF; split
  · rename_i h; exact ⟨h2, h.2⟩
  · exact ⟨h1, h3⟩
theorem pick_steps {ts : List (List Nat)} {size : Nat} (hs : 1 ≤ size) (ha : [97] ∈ ts) : ∀ k, k ≤ ts.length → (List.range k).foldl (pickF ts size) (ts.idxOf [97]) < ts.length ∧ (ts.getD ((List.range k).foldl (pickF ts size) (ts.idxOf [97])) []).length ≤ size
  | 0, _ => by
    have hj : ts.idxOf [97] < ts.length := List.idxOf_lt_length_iff.mpr ha
    refine ⟨hj, ?_⟩
    show (ts.getD (ts.idxOf [97]) []).length ≤ size
    rw [List.getD_eq_getElem?_getD, List.getElem?_eq_getElem hj, List.getElem_idxOf hj]
    exact hs
  | k + 1, hk => by
    obtain ⟨i1, i2⟩ := pick_steps hs ha k (by omega)
    rw [List.range_succ, List.foldl_append]
    exact pickF_lt i1 (by omega) i2
theorem strs_get {ts : List (List Nat)} {i : Nat} (h : i < ts.length) : (ts.map V.str)[((i : Nat) : Int).toNat]? = some (.str (ts.getD i [])) := by
  rw [Int.toNat_natCast, List.getElem?_map, List.getD_eq_getElem?_getD, List.getElem?_eq_getElem h]; rfl
theorem a_lit : (Str.ofString "a").cps.toList = [97] := by decide +kernel
theorem fn_pick {ts : List (List Nat)} {size d : Nat} {Φ : V → Prop} (hs : 1 ≤ size) (hs2 : size ≤ 1000) (ha : [97] ∈ ts) (hl : ts.length ≤ 100) (hll : ∀ t ∈ ts, t.length ≤ 1000) (h : Φ (.int (pickOf ts size : Nat))) : Fn (cx w mean mg mb) (d + 1) (.ref 165) [.list (ts.map .str), .int size] Φ := by
  have hsz : sizeLine = 16777216 := by decide
  have hnl : (ts.map V.str).length = ts.length := List.length_map _
  have hg : ∀ i, (ts.getD i []).length ≤ 1000 := fun i => by
    rw [List.getD_eq_getElem?_getD]
    cases e : ts[i]? with
    | none => exact Nat.zero_le _
    | some t => exact hll t (List.mem_of_getElem? e)
  refine fn_body (names := [n "told", n "size"]) (by rfl) rfl rfl (by rfl) ?_ rfl (by decide) (by rfl) rfl rfl rfl rfl rfl ?_
  · intro vs hv
    obtain ⟨a, b, rfl⟩ := len2 hv
    rfl
  intro L
  refine ex_cons <| ex_assign (.inl rfl) <| ev_lmeth F.slot_list_index F.type_list_index <| ev_name rfl ⟨⟨_, rfl⟩, el_cons <| ev_strL a_lit <| el_nil <| fn_lindex ha (by omega) ?_⟩
  refine ex_mid (fun τ => τ (n "best") = some (.val (.int (pickOf ts size : Nat)))) ?m1 ?m2
  case m2 => intro τ t1; exact ex_cons <| ex_return <| ev_name t1 h
  refine ex_for (fun items i τ => items = rngL 0 (ts.map V.str).length ∧ τ (n "told") = some (.val (.list (ts.map .str))) ∧ τ (n "size") = some (.val (.int size)) ∧ τ (n "best") = some (.val (.int (((List.range i).foldl (pickF ts size) (ts.idxOf [97]) : Nat) : Int))))
    (evi_range <| ev_call <| ev_blt rfl rfl rfl ⟨rfl, trivial, el_cons <| ev_call <| ev_blt rfl rfl rfl ⟨rfl, trivial, el_cons <| ev_name rfl <| el_nil <| fn_len_list (by omega) <| el_nil <| fn_range1 ⟨_, _, rfl, small_one (by decide) (by decide) (by omega) (by omega), ⟨rfl, rfl, rfl, rfl⟩, ?_, ?_⟩⟩⟩)
  · rintro i y τ hy ⟨_, t1, t2, t3⟩
    obtain ⟨rfl, hi⟩ := rngL_get hy
    rw [Int.zero_add]
    have hi2 : i < ts.length := by omega
    obtain ⟨b1, b2⟩ := pick_steps hs ha i (by omega)
    generalize hb : (List.range i).foldl (pickF ts size) (ts.idxOf [97]) = best at t3 b1 b2
    have hnext : (List.range (i + 1)).foldl (pickF ts size) (ts.idxOf [97]) = pickF ts size best i := by
      rw [List.range_succ, List.foldl_append, hb]; rfl
    refine ⟨.inl rfl, ?_⟩
    refine ex_cons <| ex_if <| et_cmp2 <| ev_call <| ev_blt rfl rfl rfl ⟨rfl, trivial, el_cons <| ev_item <| ev_name (y := .list (ts.map .str)) t1 <| ev_name t3 <| it_list (y := .str (ts.getD best [])) (by omega) (by omega) (strs_get b1) <| el_nil <| fn_len_str (by have := hg best; omega) <| ev_call <| ev_blt rfl rfl rfl ⟨rfl, trivial, el_cons <| ev_item <| ev_name (y := .list (ts.map .str)) t1 <| ev_name rfl <| it_list (y := .str (ts.getD i [])) (by omega) (by omega) (strs_get hi2) <| el_nil <| fn_len_str (by have := hg i; omega) <| op_le <| tt_bool <| ite_both (fun e => ?_) fun e => ?_⟩⟩
    · refine ev_name (y := .int (size : Nat)) t2 <| op_le <| tt_bool <| ite_both (fun e' => ?_) fun e' => ?_
      · refine ex_cons <| ex_assign (.inl rfl) <| ev_name rfl <| ex_nil <| ex_nil ⟨rfl, t1, t2, ?_⟩
        rw [hnext]
        have q1 := of_decide_eq_true e
        have q2 := of_decide_eq_true e'
        unfold pickF
        rw [if_pos ⟨by omega, by omega⟩]; rfl
      · refine ex_nil <| ex_nil ⟨rfl, t1, t2, ?_⟩
        rw [hnext]
        have q2 := of_decide_eq_false e'
        unfold pickF
        rw [if_neg (by omega)]; exact t3
    · show ExS _ _ _ _ _ _
      refine ex_nil <| ex_nil ⟨rfl, t1, t2, ?_⟩
      rw [hnext]
      have q2 := of_decide_eq_false e
      unfold pickF
      rw [if_neg (by omega)]; exact t3
  · rintro τ ⟨_, t1, t2, t3⟩
    rw [rngL_len, show ((((ts.map V.str).length : Nat) : Int) - 0).toNat = ts.length by omega] at t3
    exact t3
end Mine

namespace Mine
variable {w : World} {mean : ExcName → Option Value} {mg mb : Str → Option Value}
theorem dots_lit : (Str.ofString "...").cps.toList = dots := by decide +kernel
theorem jn_snoc : ∀ ws : List (List Nat), ws ≠ [] → jn dots (ws ++ [[]]) = jn dots ws ++ dots
  | [], h => absurd rfl h
  | [x], _ => by simp [jn]
  | x :: y :: r, _ => by
    have ih := jn_snoc (y :: r) (by simp)
    show x ++ dots ++ jn dots ((y :: r) ++ [[]]) = x ++ dots ++ jn dots (y :: r) ++ dots
    rw [ih]; simp
theorem jn_cons0 {ws : List (List Nat)} (h : ws ≠ []) : jn dots ([] :: ws) = dots ++ jn dots ws := by
  cases ws with
  | nil => exact absurd rfl h
  | cons x r => simp [jn]
theorem jn_len : ∀ ws : List (List Nat), (∀ p ∈ ws, p.length ≤ 6) → (jn dots ws).length ≤ 9 * ws.length
  | [], _ => by simp [jn]
  | [x], h => by have := h x (by simp); simp [jn]; omega
  | x :: y :: r, h => by
    have ih := jn_len (y :: r) fun p hp => h p (List.mem_cons_of_mem _ hp)
    have := h x (by simp)
    show (x ++ dots ++ jn dots (y :: r)).length ≤ _
    rw [List.length_append, List.length_append]
    have e : dots.length = 3 := rfl
    rw [e]
    simp only [List.length_cons] at ih ⊢; omega
def frontV (R : List Nat) : V → V
  | .int k => .str (R.take (k.toNat + 1))
  | x => x
theorem lt_dec (a b : Nat) : decide (((a : Nat) : Int) < ((b : Nat) : Int)) = decide (a < b) := by
  apply decide_eq_decide.mpr; omega
theorem fn_fits {U runs : List Nat} {m O d : Nat} {Φ : V → Prop} (hU : headOnce U = true) (hdot : 46 ∉ U) (hr : runs ≠ []) (hl : runs.length ≤ 10) (h5 : ∀ r ∈ runs, r ≤ 5) (hcap : colR U.length runs 0 + 2 * U.length + 1 ≤ m * U.length) (hO : O ≤ m * U.length) (hm : m * U.length ≤ 1000)
    (h : Φ (.bool true)) : Fn (cx w mean mg mb) (d + 2) (.ref 170) [.list (natsV runs), .int (colR U.length runs 0 : Nat), .int (O : Nat), .int (U.length : Nat), .str (repL m U)] Φ := by
  have hsz : sizeLine = 16777216 := by decide
  have hnl := natsV_len runs
  have hpos := head_len hU
  have hRl := rep_len U m
  have hF : ∀ r ∈ runs, r + 1 ≤ m * U.length := fun r hr => by have := colR_ge2 hpos runs 0 r hr; omega
  have hRdot : 46 ∉ repL m U := fun hm => by
    unfold repL at hm
    obtain ⟨z, hz, hz2⟩ := List.mem_flatten.mp hm
    rw [(List.mem_replicate.mp hz).2] at hz2; exact hdot hz2
  have hfr : ∀ p ∈ fronts U m runs, 46 ∉ p ∧ p.length ≤ 6 := fun p hp => by
    unfold fronts at hp
    obtain ⟨r, hr, rfl⟩ := List.mem_map.mp hp
    have := h5 r hr
    exact ⟨fun z => hRdot (List.mem_of_mem_take z), by rw [List.length_take]; omega⟩
  have hfl : (fronts U m runs).length = runs.length := List.length_map _
  have hfne : fronts U m runs ≠ [] := fun z => hr (by unfold fronts at z; exact List.map_eq_nil_iff.mp z)
  have hrl : 1 ≤ runs.length := List.length_pos_iff.mpr hr
  have hjl := jn_len (fronts U m runs) fun p hp => (hfr p hp).2
  generalize hC : colR U.length runs 0 = C at hcap
  refine fn_body (names := [n "runs", n "column", n "other", n "size", n "row"]) (by rfl) rfl rfl (by rfl) ?_ rfl (by decide) (by rfl) rfl rfl rfl rfl rfl ?_
  · intro vs hv
    match vs, hv with
    | [a, b, c, d, e], _ => rfl
  intro L
  refine ex_cons <| ex_assign (.inl rfl) <| ev_smeth F.slot_str_join F.type_str_join <| ev_strL dots_lit ⟨⟨_, rfl⟩, el_cons <| EvF.ev <| ef_comp _ <| evi_list <| ev_name rfl ⟨_, rfl, trivial, CompOk.map (frontV (repL m U)) (by omega) (fun C' y hy => ?_) ?_⟩⟩
  · unfold natsV at hy
    obtain ⟨r, hr', rfl⟩ := List.mem_map.mp hy
    have h1 := hF r hr'
    refine ⟨rfl, ev_slice <| ev_name (y := .str (repL m U)) ?_ <| ev_binop <| ev_name rfl <| ev_int <| op_add ⟨_, rfl, sl_str (by omega) ?_⟩⟩
    · exact set_ne (by decide) (compσ_val rfl (kcell _ rfl) rfl)
    rw [show ((r : Nat) : Int) + 1 = ((r + 1 : Nat) : Int) by omega, sliceL_ns (by omega)]
    show _ = V.str ((repL m U).take (((r : Nat) : Int).toNat + 1))
    rw [Int.toNat_natCast]
  have e1 : (natsV runs).map (frontV (repL m U)) = (fronts U m runs).map .str := by
    unfold natsV fronts
    rw [List.map_map, List.map_map]
    apply List.map_congr_left
    intro r _
    show V.str ((repL m U).take (((r : Nat) : Int).toNat + 1)) = V.str ((repL m U).take (r + 1))
    rw [Int.toNat_natCast]
  rw [e1]
  have hflat : (fronts U m runs).flatten.length ≤ 60 := by
    have : ∀ l : List (List Nat), (∀ p ∈ l, p.length ≤ 6) → l.flatten.length ≤ 6 * l.length := fun l hl6 => by
      induction l with
      | nil => simp
      | cons x l ih =>
        have h1 := hl6 x (by simp)
        have h2 := ih fun p hp => hl6 p (List.mem_cons_of_mem _ hp)
        rw [List.flatten_cons, List.length_append, List.length_cons]; omega
    have := this (fronts U m runs) fun p hp => (hfr p hp).2
    omega
  refine el_nil <| fn_join (join_ok (by omega) (by decide)) ?_
  rw [joinL_eq]
  have f1 : jn dots (fronts U m runs) ++ dots = jn dots (fronts U m runs ++ [[]]) := (jn_snoc _ hfne).symm
  have f2 : dots ++ jn dots (fronts U m runs) = jn dots ([] :: fronts U m runs) := (jn_cons0 hfne).symm
  have f3 : jn dots ([] :: fronts U m runs) ++ dots = jn dots ([] :: (fronts U m runs ++ [[]])) := by rw [← List.cons_append]; exact (jn_snoc _ (by simp)).symm
  have dl : dots.length = 3 := rfl
  have j1 : (jn dots (fronts U m runs ++ [[]])).length ≤ 93 := by rw [← f1, List.length_append]; omega
  have j2 : (jn dots ([] :: fronts U m runs)).length ≤ 93 := by rw [← f2, List.length_append]; omega
  have j3 : (jn dots ([] :: (fronts U m runs ++ [[]]))).length ≤ 96 := by rw [← f3, List.length_append]; omega
  have w1 : ∀ p ∈ fronts U m runs ++ [[]], 46 ∉ p ∧ p.length ≤ 100000 := fun p hp => by
    rcases List.mem_append.mp hp with hp | hp
    · exact ⟨(hfr p hp).1, by have := (hfr p hp).2; omega⟩
    · rw [List.mem_singleton.mp hp]; simp
  have w2 : ∀ p ∈ [] :: fronts U m runs, 46 ∉ p ∧ p.length ≤ 100000 := fun p hp => by
    rcases List.mem_cons.mp hp with rfl | hp
    · simp
    · exact ⟨(hfr p hp).1, by have := (hfr p hp).2; omega⟩
  have w3 : ∀ p ∈ [] :: (fronts U m runs ++ [[]]), 46 ∉ p ∧ p.length ≤ 100000 := fun p hp => by
    rcases List.mem_cons.mp hp with rfl | hp
    · simp
    · exact w1 p hp
  generalize hform : jn dots (fronts U m runs) = form at hjl f1 f2
  have hfo : form.length ≤ 90 := by omega
  let J : Store → Prop := fun τ => τ (n "form") = some (.val (.str form)) ∧ τ (n "column") = some (.val (.int (C : Nat))) ∧ τ (n "size") = some (.val (.int (U.length : Nat))) ∧ τ (n "row") = some (.val (.str (repL m U)))
  refine ex_mid J ?m1 ?m2
  case m1 =>
    refine ex_for (fun items i τ => items = [.int (C : Nat), .int ((C : Nat) + 1), .int (O : Nat)] ∧ J τ)
      (evi_list <| ev_list <| el_cons <| ev_name rfl <| el_cons <| ev_binop <| ev_name rfl <| ev_int <| op_add <| el_cons <| ev_name rfl <| el_nil ⟨Nat.le_of_ble_eq_true rfl, _, rfl, trivial, ⟨rfl, rfl, rfl, rfl, rfl⟩, ?_, ?_⟩)
    · rintro i y τ hy ⟨_, t1, t2, t3, t4⟩
      obtain ⟨cut, hcut, rfl⟩ : ∃ cut : Nat, cut ≤ m * U.length ∧ y = .int (cut : Nat) := by
        have := List.mem_of_getElem? hy
        simp only [List.mem_cons, List.not_mem_nil, or_false] at this
        rcases this with rfl | rfl | rfl
        · exact ⟨C, by omega, rfl⟩
        · exact ⟨C + 1, by omega, rfl⟩
        · exact ⟨O, hO, rfl⟩
      refine ⟨.inl rfl, ?_⟩
      refine ex_cons <| ex_if <| et_cmp <| ev_call <| ev_glob rfl rfl ⟨rfl, rfl, el_cons <| ev_binop <| ev_name t1 <| ev_strL dots_lit <| op_adds (by rw [dl]; omega) ?_⟩
      rw [f1]
      refine el_cons <| ev_slice <| ev_name (y := .str (repL m U)) t4 <| ev_name rfl ⟨_, rfl, sl_str (by omega) ?_⟩
      rw [sliceL_ns (by omega)]
      refine el_nil <| fn_em (fun p hp => (w1 p hp).1) (by simp; omega) (by simp; omega) (fun p hp => (w1 p hp).2) (by omega) (by rw [List.length_take]; omega) ?_
      rw [em1 hU hr hF hcut, hC]
      refine ev_cmp <| ev_name (y := .int (C : Nat)) t2 <| ev_name rfl <| op_lt ?_
      rw [lt_dec]
      refine op_neb <| tt_bool ?_
      rw [beq_self_eq_true]
      exact ex_nil <| ex_nil ⟨rfl, t1, t2, t3, t4⟩
    · rintro τ ⟨_, t⟩; exact t
  rintro τ ⟨t1, t2, t3, t4⟩
  refine ex_mid J ?k1 ?k2
  case k1 =>
    refine ex_for (fun items i τ => items = [.int ((C : Nat) + 1), .int ((C : Nat) + 2), .int (max 0 ((C : Nat) + 1 - (U.length : Nat)))] ∧ J τ)
      (evi_list <| ev_list <| el_cons <| ev_binop <| ev_name t2 <| ev_int <| op_add <| el_cons <| ev_binop <| ev_name t2 <| ev_int <| op_add <| el_cons <| ev_call <| ev_blt rfl rfl rfl ⟨rfl, trivial, el_cons <| ev_int <| el_cons <| ev_binop <| ev_binop <| ev_name t2 <| ev_int <| op_add <| ev_name t3 <| op_sub <| el_nil <| fn_max2 <| el_nil ⟨Nat.le_of_ble_eq_true rfl, _, rfl, trivial, ⟨rfl, t1, t2, t3, t4⟩, ?_, ?_⟩⟩)
    · rintro i y τ hy ⟨_, t1, t2, t3, t4⟩
      obtain ⟨cut, hcut, rfl⟩ : ∃ cut : Nat, cut ≤ m * U.length ∧ y = .int (cut : Nat) := by
        have := List.mem_of_getElem? hy
        simp only [List.mem_cons, List.not_mem_nil, or_false] at this
        rcases this with rfl | rfl | rfl
        · exact ⟨C + 1, by omega, rfl⟩
        · exact ⟨C + 2, by omega, rfl⟩
        · exact ⟨C + 1 - U.length, by omega, congrArg V.int (by omega)⟩
      refine ⟨.inl rfl, ?_⟩
      refine ex_cons <| ex_assign (.inl rfl) <| EvE.mono (Φ := fun x => x = .bool (decide (C < cut) && decide ((cut - C - 1) % U.length = 0))) ?_ fun x hx => ?_
      · refine ev_and <| ev_cmp <| ev_name (y := .int (C : Nat)) t2 <| ev_name rfl <| op_lt ?_
        rw [lt_dec]
        refine tt_bool <| ite_both (fun e => ?_) fun e => ?_
        · have hlt := of_decide_eq_true e
          refine ev_cmp <| ev_binop <| ev_binop <| ev_binop <| ev_name rfl <| ev_name (y := .int (C : Nat)) t2 <| op_sub <| ev_int <| op_sub <| ev_name (y := .int (U.length : Nat)) t3 <| op_mod (by omega) <| ev_int <| op_eq ?_
          rw [e, Bool.true_and, show ((cut : Nat) : Int) - (C : Nat) - 1 = ((cut - C - 1 : Nat) : Int) by omega, ← Int.natCast_emod]
          congr 1
          cases hz : (cut - C - 1) % U.length <;> rfl
        · rw [e]; rfl
      subst hx
      refine ex_cons <| ex_if <| et_cmp <| ev_call <| ev_glob rfl rfl ⟨rfl, rfl, el_cons <| ev_binop <| ev_strL dots_lit <| ev_name (y := .str form) t1 <| op_adds (by rw [dl]; omega) ?_⟩
      rw [f2]
      refine el_cons <| ev_slice <| ev_name (y := .str (repL m U)) t4 <| ev_name rfl ⟨_, rfl, sl_str (by omega) ?_⟩
      rw [sliceL_ns (by omega)]
      refine el_nil <| fn_em (fun p hp => (w2 p hp).1) (by simp; omega) (by simp; omega) (fun p hp => (w2 p hp).2) (by omega) (by rw [List.length_take]; omega) ?_
      rw [em2 hU hr hF hcut, hC]
      refine ev_name rfl <| op_neb <| tt_bool ?_
      rw [beq_self_eq_true]
      exact ex_nil <| ex_nil ⟨rfl, t1, t2, t3, t4⟩
    · rintro τ ⟨_, t⟩; exact t
  rintro τ ⟨t1, t2, t3, t4⟩
  refine ex_mid (fun _ => True) ?l1 ?l2
  case l2 => intro τ _; exact ex_cons <| ex_return <| ev_bool h
  refine ex_for (fun items i τ => items = [.int ((C : Nat) + (U.length : Nat)), .int ((C : Nat) + (U.length : Nat) + 1)] ∧ J τ)
    (evi_list <| ev_list <| el_cons <| ev_binop <| ev_name t2 <| ev_name t3 <| op_add <| el_cons <| ev_binop <| ev_binop <| ev_name t2 <| ev_name t3 <| op_add <| ev_int <| op_add <| el_nil ⟨Nat.le_of_ble_eq_true rfl, _, rfl, trivial, ⟨rfl, t1, t2, t3, t4⟩, ?_, fun _ _ => trivial⟩)
  rintro i y τ hy ⟨_, t1, t2, t3, t4⟩
  obtain ⟨cut, hcut, hcut1, rfl⟩ : ∃ cut : Nat, cut ≤ m * U.length ∧ 1 ≤ cut ∧ y = .int (cut : Nat) := by
    have := List.mem_of_getElem? hy
    simp only [List.mem_cons, List.not_mem_nil, or_false] at this
    rcases this with rfl | rfl
    · exact ⟨C + U.length, by omega, by omega, rfl⟩
    · exact ⟨C + U.length + 1, by omega, by omega, rfl⟩
  refine ⟨.inl rfl, ?_⟩
  refine ex_cons <| ex_if <| et_cmp <| ev_call <| ev_glob rfl rfl ⟨rfl, rfl, el_cons <| ev_binop <| ev_binop <| ev_strL dots_lit <| ev_name (y := .str form) t1 <| op_adds (by rw [dl]; omega) <| ev_strL dots_lit <| op_adds (by rw [List.length_append, dl]; omega) ?_⟩
  rw [f2, f3]
  refine el_cons <| ev_slice <| ev_name (y := .str (repL m U)) t4 <| ev_int ⟨_, rfl, ev_name rfl ⟨_, rfl, sl_str (by omega) ?_⟩⟩
  rw [show (1 : Int) = ((1 : Nat) : Int) by rfl, sliceL_ss hcut1 (by omega), ← List.drop_take]
  refine el_nil <| fn_em (fun p hp => (w3 p hp).1) (by simp) (by simp; omega) (fun p hp => (w3 p hp).2) (by omega) (by rw [List.length_drop, List.length_take]; omega) ?_
  rw [em3 hU hr hF hcut hcut1, hC]
  refine ev_cmp <| ev_binop <| ev_name (y := .int (C : Nat)) t2 <| ev_name (y := .int (U.length : Nat)) t3 <| op_add <| ev_name rfl <| op_lt ?_
  rw [show ((C : Nat) : Int) + (U.length : Nat) = ((C + U.length : Nat) : Int) by omega, lt_dec]
  refine op_neb <| tt_bool ?_
  rw [beq_self_eq_true]
  exact ex_nil <| ex_nil ⟨rfl, t1, t2, t3, t4⟩
end Mine

namespace Mine
variable {w : World} {mean : ExcName → Option Value} {mg mb : Str → Option Value}
def rowsL (u v : WS) (k : Nat) : List (List Int) := ((List.range k).map (· + 1)).map (rowT u v)
theorem wit_nil {p : Nat → Bool} {u v : WS} {k : Nat} : wit p u v k = [] ↔ ∀ ts, 1 ≤ ts → ts ≤ k → p ts = false := by
  unfold wit
  rw [List.map_eq_nil_iff, List.filter_eq_nil_iff]
  constructor
  · intro h ts h1 h2
    have := h ts (List.mem_map.mpr ⟨ts - 1, List.mem_range.mpr (by omega), by omega⟩)
    simpa using this
  · intro h x hx
    obtain ⟨i, hi, rfl⟩ := List.mem_map.mp hx
    have := h (i + 1) (by omega) (by have := List.mem_range.mp hi; omega)
    simp [this]
def geV : V → Bool
  | .tup [_, .int x, .int y] => decide (y ≤ x)
  | _ => false
def neV : V → Bool
  | .tup [_, .int x, .int y] => x != y
  | _ => false
theorem rows_ge (u v : WS) (k : Nat) : (((rowsL u v k).map tupI).filter geV).map id = (wit (fn_nlwP u v) u v k).map tupI := by
  unfold rowsL wit
  rw [List.map_id, List.filter_map, List.filter_map]
  congr 3
  funext ts
  show decide (((lvl v ts : Nat) : Int) ≤ (lvl u ts : Nat)) = decide (lvl v ts ≤ lvl u ts)
  apply decide_eq_decide.mpr; omega
theorem rows_ne (u v : WS) (k : Nat) : (((rowsL u v k).map tupI).filter neV).map id = (wit (fn_newP u v) u v k).map tupI := by
  unfold rowsL wit
  rw [List.map_id, List.filter_map, List.filter_map]
  congr 3
  funext ts
  show (((lvl u ts : Nat) : Int) != (lvl v ts : Nat)) = decide (lvl u ts ≠ lvl v ts)
  by_cases e : lvl u ts = lvl v ts
  · rw [e]; simp
  · have : ((lvl u ts : Nat) : Int) ≠ (lvl v ts : Nat) := by omega
    simp [e, this]
theorem row_mem {u v : WS} {k : Nat} {y : V} (h : y ∈ (rowsL u v k).map tupI) : ∃ a x z : Nat, y = .tup [.int (a : Nat), .int (x : Nat), .int (z : Nat)] := by
  unfold rowsL at h
  rw [List.map_map, List.map_map] at h
  obtain ⟨i, _, rfl⟩ := List.mem_map.mp h
  exact ⟨i + 1, lvl u (i + 1), lvl v (i + 1), rfl⟩
structure Pair (r q : List Nat) (u v : WS) : Prop where
  hr : r ≠ []
  hq : q ≠ []
  ku : LeadOk r u
  kv : LeadOk q v
  nu : u.n = lvl u 1
  nv : v.n = lvl v 1
  mx : max (mxR r) (mxR q) ≤ 100
theorem less_R {r q : List Nat} {u v : WS} (P : Pair r q u v) :
    (v.n ≤ u.n → decide (wit (fn_nlwP u v) u v (max (mxR r) (mxR q) + 1) = []) = false) ∧
    (u.n < v.n → u.count.length ≤ 1 → v.count.length ≤ 1 → decide (wit (fn_nlwP u v) u v (max (mxR r) (mxR q) + 1) = []) = decide (u.nt ≤ v.nt)) ∧
    (u.n < v.n → (∀ ts, 2 ≤ ts → ts ≤ max (mxR r) (mxR q) + 1 → lvl u ts < lvl v ts) → decide (wit (fn_nlwP u v) u v (max (mxR r) (mxR q) + 1) = []) = true) ∧
    (∀ ts, 2 ≤ ts → ts ≤ max (mxR r) (mxR q) + 1 → lvl v ts ≤ lvl u ts → decide (wit (fn_nlwP u v) u v (max (mxR r) (mxR q) + 1) = []) = false) := by
  have hN : ∀ ts, fn_nlwP u v ts = false ↔ lvl u ts < lvl v ts := fun ts => by
    unfold fn_nlwP
    rw [decide_eq_false_iff_not]; omega
  have nu := P.nu; have nv := P.nv
  refine ⟨fun h => decide_eq_false fun z => ?_, fun h s1 s2 => decide_eq_decide.mpr ?_, fun h hl => decide_eq_true ?_, fun ts h1 h2 h3 => decide_eq_false fun z => ?_⟩
  · have := (hN 1).mp (wit_nil.mp z 1 (Nat.le_refl _) (by omega)); omega
  · have e1 : ∀ ts, 1 ≤ ts → lvl u ts = u.b + ts * u.nt := fun ts t => simple_lvl P.ku.good s1 t
    have e2 : ∀ ts, 1 ≤ ts → lvl v ts = v.b + ts * v.nt := fun ts t => simple_lvl P.kv.good s2 t
    have hb := (lead_bounds P.hq P.kv).2
    have := less_simple (b := u.b) (b' := v.b) (t := u.nt) (t' := v.nt) (M := max (mxR r) (mxR q)) (by rw [← e1 1 (Nat.le_refl _), ← e2 1 (Nat.le_refl _)]; omega) (by omega)
    rw [this, wit_nil]
    constructor
    · intro g ts t1 t2
      rw [← e1 ts t1, ← e2 ts t1]; exact (hN ts).mp (g ts t1 t2)
    · intro g ts t1 t2
      apply (hN ts).mpr
      rw [e1 ts t1, e2 ts t1]; exact g ts t1 t2
  · apply wit_nil.mpr
    intro ts t1 t2
    apply (hN ts).mpr
    rcases Nat.lt_or_ge ts 2 with q | q
    · rw [show ts = 1 by omega]; omega
    · exact hl ts q t2
  · have := (hN ts).mp (wit_nil.mp z ts (by omega) h2); omega
theorem equal_R {r q : List Nat} {u v : WS} (P : Pair r q u v) : (decide (u.count = v.count) && decide (u.b = v.b)) = decide (wit (fn_newP u v) u v (max (mxR r) (mxR q) + 1) = []) := by
  rw [← Bool.decide_and]
  apply decide_eq_decide.mpr
  rw [wit_nil]
  constructor
  · rintro ⟨h1, h2⟩ ts t1 _
    unfold fn_newP
    rw [lead_same P.ku.good P.kv.good h1 h2 t1]; simp
  · intro h
    refine same_lead P.hr P.hq P.ku P.kv (M := max (mxR r) (mxR q)) (by omega) (by omega) fun ts t1 t2 => ?_
    have := h ts t1 t2
    unfold fn_newP at this
    simpa using this
theorem Pair.small {r q : List Nat} {u v : WS} (P : Pair r q u v) : u.count.length ≤ 1000 ∧ v.count.length ≤ 1000 := by
  have h1 := lead_bounds P.hr P.ku
  have h2 := lead_bounds P.hq P.kv
  have := P.mx
  omega
theorem fn_verdicts {l l' r q : List Nat} {u v : WS} {d : Nat} {Φ : V → Prop} (P : Pair r q u v) (h : Φ (.bool true)) : Fn (cx w mean mg mb) (d + 3) (.ref 175) [wObj l u, wObj l' v, .list ((rowsL u v (max (mxR r) (mxR q) + 1)).map tupI)] Φ := by
  have hsz : sizeLine = 16777216 := by decide
  have hmx := P.mx
  obtain ⟨c1, c2⟩ := P.small
  have m1 := longest P.hr P.ku
  have m2 := longest P.hq P.kv
  obtain ⟨l1, l2, l3, l4⟩ := less_R P
  have eR := equal_R P
  refine fn_body (names := [n "one", n "two", n "rows"]) (by rfl) rfl rfl (by rfl) ?_ rfl (by decide) (by rfl) rfl rfl rfl rfl rfl ?_
  · intro vs hv
    obtain ⟨a, b, e, rfl⟩ := len3 hv
    rfl
  intro L
  have hK : ∃ K, K = max (mxR r) (mxR q) := ⟨_, rfl⟩
  obtain ⟨K, hKe⟩ := hK
  have hrl : ((rowsL u v (max (mxR r) (mxR q) + 1)).map tupI).length = max (mxR r) (mxR q) + 1 := by unfold rowsL; simp
  have tst : ∀ {y : V}, y ∈ (rowsL u v (max (mxR r) (mxR q) + 1)).map tupI → ∃ a x z : Nat, y = .tup [.int (a : Nat), .int (x : Nat), .int (z : Nat)] := row_mem
  refine ex_cons <| ex_assign_comp _ rfl <| evi_list <| ev_name rfl ⟨_, rfl, trivial, CompOk.filter geV id (by omega) (fun C y hy => ?_) ?_⟩
  · obtain ⟨a, x, z, rfl⟩ := tst hy
    refine ⟨rfl, et_cmp <| ev_item <| ev_name rfl <| ev_int <| it_tup (y := .int (x : Nat)) (by decide) (Nat.le_of_ble_eq_true rfl) rfl <| ev_item <| ev_name rfl <| ev_int <| it_tup (y := .int (z : Nat)) (by decide) (Nat.le_of_ble_eq_true rfl) rfl <| op_ge <| tt_bool <| ite_both (fun e => ?_) fun e => ?_⟩
    · exact ⟨e.symm, fun _ => ev_name rfl rfl⟩
    · exact ⟨e.symm, fun h => nomatch h⟩
  rw [rows_ge]
  refine ex_cons <| ex_assign_comp _ rfl <| evi_list <| ev_name rfl ⟨_, rfl, trivial, CompOk.filter neV id (by omega) (fun C y hy => ?_) ?_⟩
  · obtain ⟨a, x, z, rfl⟩ := tst hy
    refine ⟨rfl, et_cmp <| ev_item <| ev_name rfl <| ev_int <| it_tup (y := .int (x : Nat)) (by decide) (Nat.le_of_ble_eq_true rfl) rfl <| ev_item <| ev_name rfl <| ev_int <| it_tup (y := .int (z : Nat)) (by decide) (Nat.le_of_ble_eq_true rfl) rfl <| op_ne <| tt_bool <| ite_both (fun e => ?_) fun e => ?_⟩
    · exact ⟨e.symm, fun _ => ev_name rfl rfl⟩
    · exact ⟨e.symm, fun h => nomatch h⟩
  rw [rows_ne]
  have h0 : ((rowsL u v (max (mxR r) (mxR q) + 1)).map tupI)[((0 : Int)).toNat]? = some (.tup [.int ((1 : Nat) : Int), .int ((lvl u 1 : Nat) : Int), .int ((lvl v 1 : Nat) : Int)]) := by
    unfold rowsL
    rw [List.range_succ_eq_map]; rfl
  refine ex_cons <| ex_if <| et_orC <| et_cmp <| ev_attr <| ev_name rfl ⟨76, wsNames, _, rfl, by rfl, 1, _, rfl, rfl, (by intro _ e; cases e), ev_item <| ev_item <| ev_name (y := .list ((rowsL u v (max (mxR r) (mxR q) + 1)).map tupI)) rfl <| ev_int <| it_list (by decide) (by omega) h0 <| ev_int <| it_tup (y := .int ((lvl u 1 : Nat) : Int)) (by decide) (Nat.le_of_ble_eq_true rfl) rfl <| op_ne <| tt_bool ?_⟩
  rw [P.nu, bne_self_eq_false]
  show EvT _ _ _ _ _ _
  refine et_or <| et_cmp <| ev_ometh (f := 73) <| ev_name rfl ⟨⟨76, wsNames, _, rfl, by decide, by rfl, by rfl⟩, el_cons <| ev_name rfl <| el_nil <| fn_nlw c1 c2 m1 m2 (by omega) <| ev_name rfl <| op_ner <| tt_bool ?_⟩
  rw [decide_eq_true rfl]
  show EvT _ _ _ _ _ _
  refine et_cmp <| ev_ometh (f := 59) <| ev_name rfl ⟨⟨76, wsNames, _, rfl, by decide, by rfl, by rfl⟩, el_cons <| ev_name rfl <| el_nil <| fn_new c1 c2 m1 m2 (by omega) <| ev_name rfl <| op_ner <| tt_bool ?_⟩
  rw [decide_eq_true rfl]
  refine ex_nil ?_
  refine ex_cons <| ex_return <| ev_and <| ev_cmp <| ev_ometh (f := 66) <| ev_name rfl ⟨⟨76, wsNames, _, rfl, by decide, by rfl, by rfl⟩, el_cons <| ev_name rfl <| el_nil <| fn_less c1 c2 m1 m2 (by omega) l1 l2 l3 l4 <| ev_cmp <| ev_name (y := .list ((wit (fn_nlwP u v) u v (max (mxR r) (mxR q) + 1)).map tupI)) rfl <| ev_list <| el_nil ⟨Nat.zero_le _, op_eqr (qs := []) <| op_eqb <| tt_bool ?_⟩⟩
  rw [beq_self_eq_true]
  show EvE _ _ _ _ _ _
  refine ev_cmp <| ev_ometh (f := 52) <| ev_name rfl ⟨⟨76, wsNames, _, rfl, by decide, by rfl, by rfl⟩, el_cons <| ev_name rfl <| el_nil <| fn_equal <| ev_cmp <| ev_name (y := .list ((wit (fn_newP u v) u v (max (mxR r) (mxR q) + 1)).map tupI)) rfl <| ev_list <| el_nil ⟨Nat.zero_le _, op_eqr (qs := []) <| op_eqb ?_⟩⟩
  rw [eR, beq_self_eq_true]
  exact h
end Mine

namespace Mine
/-! law 1: what the draws tell -/
def RunsOk (r : List Nat) : Prop := r ≠ [] ∧ r.length ≤ 4 ∧ ∀ x ∈ r, x ≤ 5
theorem runsOf_ok (N : Nat) : RunsOk (runsOf N) ∧ ∀ x ∈ runsOf N, x ≤ 4 := by
  have h4 : ∀ x ∈ runsOf N, x ≤ 4 := fun x hx => by
    unfold runsOf at hx
    rcases List.mem_append.mp hx with hx | hx
    · have := List.mem_of_mem_take hx
      simp only [List.mem_cons, List.not_mem_nil, or_false] at this
      omega
    · have := List.mem_singleton.mp hx; omega
  refine ⟨⟨by unfold runsOf; simp, ?_, fun x hx => by have := h4 x hx; omega⟩, h4⟩
  unfold runsOf
  rw [List.length_append, List.length_take]
  simp only [List.length_cons, List.length_nil]; omega
theorem otherOf_ok {r : List Nat} (h : RunsOk r) (h4 : ∀ x ∈ r, x ≤ 4) (N : Nat) : RunsOk (otherOf r N) := by
  obtain ⟨h1, h2, h3⟩ := h
  have hp := List.length_pos_iff.mpr h1
  unfold otherOf
  split
  · refine ⟨fun z => ?_, ?_, fun x hx => ?_⟩
    · have := congrArg List.length z
      rw [List.length_append, List.length_reverse, List.length_dropLast, List.length_drop, List.length_nil] at this; omega
    · rw [List.length_append, List.length_reverse, List.length_dropLast, List.length_drop]; omega
    · rcases List.mem_append.mp hx with hx | hx
      · exact h3 x ((List.dropLast_sublist r).subset (List.mem_reverse.mp hx))
      · exact h3 x (List.mem_of_mem_drop hx)
  · split
    · have hl : (bump r (N / 3 % r.length)).length = r.length := by unfold bump; simp
      refine ⟨fun z => ?_, by omega, fun x hx => ?_⟩
      · rw [z] at hl; simp at hl; omega
      · unfold bump at hx
        obtain ⟨⟨y, k⟩, hy, rfl⟩ := List.mem_map.mp hx
        have hm : y ∈ r := by
          have := List.mem_zipIdx' hy
          rw [this.2]; exact List.getElem_mem _
        have := h4 y hm
        show (if k = _ then y + 1 else y) ≤ 5
        split <;> omega
    · exact (runsOf_ok _).1
theorem colR_le {ts : Nat} (h : 1 ≤ ts) : ∀ (runs : List Nat) (k : Nat), (∀ r ∈ runs, r ≤ 5) → colR ts runs k ≤ k + runs.length * (5 + ts)
  | [], k, _ => Nat.le_add_right _ _
  | [r], k, h5 => by
    have := h5 r (by simp)
    show k + r ≤ _
    simp only [List.length_cons, List.length_nil, Nat.zero_add, Nat.one_mul]; omega
  | r :: q :: l, k, h5 => by
    have h1 := h5 r (by simp)
    have ih := colR_le h (q :: l) (((k + r) / ts + 1) * ts) fun x hx => h5 x (List.mem_cons_of_mem _ hx)
    have h2 : ((k + r) / ts + 1) * ts ≤ k + r + ts := by
      have := Nat.div_mul_le_self (k + r) ts
      rw [Nat.add_mul, Nat.one_mul]; omega
    have e : ((q :: l).length + 1) * (5 + ts) = (q :: l).length * (5 + ts) + (5 + ts) := by rw [Nat.add_mul, Nat.one_mul]
    show colR ts (q :: l) (((k + r) / ts + 1) * ts) ≤ k + ((q :: l).length + 1) * (5 + ts)
    rw [e]; omega
def signs8 : List Nat := [38, 60, 62, 34, 13, 10, 9, 97]
def orderOf (k : Nat) : List Nat := ((signs8 ++ signs8).drop k).take 8
def told2 (inn out ch : Nat) : List Nat := toldF out (toldF inn [ch])
def toldL (inn out k : Nat) : List (List Nat) := (orderOf k).map (told2 inn out)
def unitOk (inn out ch : Nat) : Bool :=
  let T := told2 inn out ch
  headOnce T && !T.contains 46 && Nat.ble T.length 10 && (T.head? != some 98) && (escF (escP out) (escF (escP inn) [ch]) == T)
theorem unit_ok : ∀ inn < 6, ∀ out < 5, ∀ ch ∈ signs8, unitOk inn out ch = true := by decide +kernel
theorem a_told : ∀ inn < 6, ∀ out < 5, told2 inn out 97 = [97] := by decide +kernel
theorem order_ok : ∀ k < 8, (orderOf k).length = 8 ∧ (∀ ch ∈ orderOf k, ch ∈ signs8) ∧ 97 ∈ orderOf k := by decide +kernel
theorem b_bare : ∀ inn < 6, escF (escP inn) [98] = [98] := by decide +kernel
theorem esc6 : ∀ inn < 6, ∀ ch ∈ signs8, (escF (escP inn) [ch]).length ≤ 6 := by decide +kernel
structure UnitOk (inn out ch : Nat) : Prop where
  once : headOnce (told2 inn out ch) = true
  dot : 46 ∉ told2 inn out ch
  len : (told2 inn out ch).length ≤ 10
  head : (told2 inn out ch).head? ≠ some 98
  esc : escF (escP out) (escF (escP inn) [ch]) = told2 inn out ch
theorem unit_of {inn out ch : Nat} (hi : inn < 6) (ho : out < 5) (hc : ch ∈ signs8) : UnitOk inn out ch := by
  have := unit_ok inn hi out ho ch hc
  unfold unitOk at this
  simp only [Bool.and_eq_true, beq_iff_eq, bne_iff_ne, Bool.not_eq_true'] at this
  obtain ⟨⟨⟨⟨h1, h2⟩, h3⟩, h4⟩, h5⟩ := this
  exact ⟨h1, fun z => by { rw [List.contains_iff_mem.mpr z] at h2; cases h2 }, Nat.le_of_ble_eq_true h3, h4, h5⟩
theorem unit_more {T : List Nat} (h : headOnce T = true) (h2 : T.head? ≠ some 98) (k : Nat) : headOnce (T ++ List.replicate k 98) = true := by
  cases T with
  | nil => cases h
  | cons x t =>
    have hx : x ≠ 98 := fun z => h2 (by rw [z]; rfl)
    have hh : (!t.contains x) = true := h
    show (!(t ++ List.replicate k 98).contains x) = true
    have h' : x ∉ t := fun z => by rw [List.contains_iff_mem.mpr z] at hh; cases hh
    have : x ∉ t ++ List.replicate k 98 := fun z => by
      rcases List.mem_append.mp z with z | z
      · exact h' z
      · exact hx (List.eq_of_mem_replicate z)
    cases hb : (t ++ List.replicate k 98).contains x with
    | false => rfl
    | true => exact absurd (List.contains_iff_mem.mp hb) this
theorem flat_app (ps : List (Nat × List Nat)) (a b : List Nat) : escF ps (a ++ b) = escF ps a ++ escF ps b := by
  rw [escF_flat ps (a ++ b), List.flatMap_append, ← escF_flat, ← escF_flat]
theorem flat_nil (ps : List (Nat × List Nat)) : escF ps [] = [] := by rw [escF_flat]; rfl
theorem flat_rep (ps : List (Nat × List Nat)) (U : List Nat) : ∀ k, escF ps (repL k U) = repL k (escF ps U)
  | 0 => flat_nil ps
  | k + 1 => by
    have e : ∀ V : List Nat, repL (k + 1) V = V ++ repL k V := fun V => by unfold repL; rw [List.replicate_succ, List.flatten_cons]
    rw [e, e, flat_app, flat_rep ps U k]
theorem esc_bs {inn : Nat} (h : inn < 6) : ∀ k, escF (escP inn) (List.replicate k 98) = List.replicate k 98
  | 0 => flat_nil _
  | k + 1 => by
    rw [List.replicate_succ, show (98 :: List.replicate k 98) = [98] ++ List.replicate k 98 by rfl, flat_app, esc_bs h k, b_bare inn h]
theorem esc_unit {inn ch : Nat} (h : inn < 6) (c k : Nat) : escF (escP inn) (repL c ([ch] ++ List.replicate k 98)) = repL c (escF (escP inn) [ch] ++ List.replicate k 98) := by
  rw [flat_rep, flat_app, esc_bs h]
theorem esc_unit2 {inn out ch : Nat} (h : inn < 6) (h2 : out < 6) (c k : Nat) : escF (escP out) (escF (escP inn) (repL c ([ch] ++ List.replicate k 98))) = repL c (escF (escP out) (escF (escP inn) [ch]) ++ List.replicate k 98) := by
  rw [esc_unit h, flat_rep, flat_app, esc_bs h2]
theorem repL_b (k : Nat) : repL k [98] = List.replicate k 98 := by
  unfold repL
  induction k with
  | zero => rfl
  | succ k ih => rw [List.replicate_succ, List.flatten_cons, ih, List.replicate_succ]; rfl
theorem cap_ok {x y s : Nat} (hs : 1 ≤ s) : x + 2 * s + 1 ≤ (max x y / s + 3) * s ∧ y + 2 * s + 1 ≤ (max x y / s + 3) * s ∧ (max x y / s + 3) * s ≤ max x y + 3 * s := by
  have h1 := Nat.div_add_mod (max x y) s
  have h2 := Nat.mod_lt (max x y) (show 0 < s by omega)
  rw [Nat.add_mul, Nat.mul_comm (max x y / s) s]
  omega
theorem max_is {l : List Nat} {M : Int} (hne : l ≠ []) (h1 : M ∈ l.map fun k : Nat => (k : Int)) (h2 : ∀ a ∈ l.map (fun k : Nat => (k : Int)), a ≤ M) : M = ((mxR l : Nat) : Int) := by
  obtain ⟨k, hk, rfl⟩ := List.mem_map.mp h1
  have a1 := mxR_ge hk
  have a2 := h2 _ (List.mem_map.mpr ⟨mxR l, mxR_mem hne, rfl⟩)
  omega
theorem leadPair {r q : List Nat} (h1 : RunsOk r) (h2 : RunsOk q) : Pair r q (leadW r) (leadW q) := by
  have k1 := leadW_ok h1.1
  have k2 := leadW_ok h2.1
  refine ⟨h1.1, h2.1, k1, k2, ?_, ?_, ?_⟩
  · rw [lead_n k1, lvl_lead (Nat.le_refl _)]
  · rw [lead_n k2, lvl_lead (Nat.le_refl _)]
  · have a1 := h1.2.2 _ (mxR_mem h1.1)
    have a2 := h2.2.2 _ (mxR_mem h2.1)
    omega
end Mine

namespace Mine
variable {w : World} {mean : ExcName → Option Value} {mg mb : Str → Option Value}
theorem order_lit : (Str.ofString "&<>\"\r\n\ta").cps.toList = signs8 := by decide +kernel
theorem b_lit : (Str.ofString "b").cps.toList = [98] := by decide +kernel
def told2V (inn out : Nat) : V → V
  | .str [ch] => .str (told2 inn out ch)
  | x => x
def nearV (ts : List (List Nat)) : V → V
  | .int s => .tup [.int (pickOf ts s.toNat : Nat), .int s]
  | x => x
def pairV (p : Nat × Nat) : V := .tup [.int (p.1 : Nat), .int (p.2 : Nat)]
def nearL (ts : List (List Nat)) (M : Nat) : List (Nat × Nat) := (List.range (M + 1)).map fun i => (pickOf ts (i + 1), i + 1)
theorem near_eq (ts : List (List Nat)) (M : Nat) : (rngL 1 (((M : Nat) : Int) + 2)).map (nearV ts) = (nearL ts M).map pairV := by
  unfold rngL nearL
  rw [List.map_map, List.map_map, show (((M : Nat) : Int) + 2 - 1).toNat = M + 1 by omega]
  apply List.map_congr_left
  intro i _
  show V.tup [.int (pickOf ts ((1 : Int) + (i : Nat)).toNat : Nat), .int ((1 : Int) + (i : Nat))] = V.tup [.int (pickOf ts (i + 1) : Nat), .int ((i + 1 : Nat) : Int)]
  rw [show ((1 : Int) + (i : Nat)).toNat = i + 1 by omega, show (1 : Int) + (i : Nat) = ((i + 1 : Nat) : Int) by omega]
def swapV : V → V
  | .tup [s, x, y] => .tup [s, y, x]
  | x => x
theorem setAll3 {σ : Store} {a b e : Str} {x y z : V} (h1 : a ≠ b) (h2 : a ≠ e) (h3 : b ≠ e) : setAll σ [a, b, e] [x, y, z] a = some (.val x) ∧ setAll σ [a, b, e] [x, y, z] b = some (.val y) ∧ setAll σ [a, b, e] [x, y, z] e = some (.val z) := by
  simp [setAll, Store.set, h1, h2, h3]
theorem fn_fits' {U runs : List Nat} {m O s C d : Nat} {Φ : V → Prop} (hs : U.length = s) (hC : colR s runs 0 = C) (hU : headOnce U = true) (hdot : 46 ∉ U) (hr : runs ≠ []) (hl : runs.length ≤ 10) (h5 : ∀ r ∈ runs, r ≤ 5) (hcap : C + 2 * s + 1 ≤ m * s) (hO : O ≤ m * s) (hm : m * s ≤ 1000)
    (h : Φ (.bool true)) : Fn (cx w mean mg mb) (d + 2) (.ref 170) [.list (natsV runs), .int (C : Nat), .int (O : Nat), .int (s : Nat), .str (repL m U)] Φ := by
  subst hs; subst hC
  exact fn_fits hU hdot hr hl h5 hcap hO hm h
theorem rows_near (u v : WS) (ts : List (List Nat)) (M : Nat) : (nearL ts M).map (fun p => rowT u v p.2) = rowsL u v (M + 1) := by
  unfold nearL rowsL
  rw [List.map_map, List.map_map]; rfl
theorem rows_swap (u v : WS) (k : Nat) : ((rowsL u v k).map tupI).map swapV = (rowsL v u k).map tupI := by
  unfold rowsL
  simp only [List.map_map]
  rfl
theorem fn_law {ns : List Int} {d : Nat} {Φ : V → Prop} (hns : ns.length ≤ 1000) (h : Φ (.bool true)) : Fn (cx w mean mg mb) (d + 4) (.ref 180) [.arg ns] Φ := by
  have hsl : sizeLine = 16777216 := by decide
  refine fn_body (names := [n "script"]) (by rfl) rfl rfl (by rfl) ?_ rfl (by decide) (by rfl) rfl rfl rfl rfl rfl ?_
  · intro vs hv
    obtain ⟨a, rfl⟩ := len1 hv
    rfl
  intro L
  refine ex_cons <| ex_assign_comp (fun items i acc => ∃ ds : List Int, acc = ds.map .int ∧ ds.length = i ∧ ∀ d ∈ ds, 0 ≤ d) rfl <| evi_enum <| ev_blt rfl rfl rfl ⟨rfl, ev_list <| el_cons <| ev_int <| el_cons <| ev_int <| el_cons <| ev_int <| el_nil ⟨Nat.le_of_ble_eq_true rfl, _, rfl, by simp [enumL]; omega, ⟨[], rfl, rfl, by simp⟩, ?_, ?_⟩⟩
  · rintro C i y acc hy ⟨ds, rfl, hds, hd0⟩
    have hs : ∃ o : Int, 0 ≤ o ∧ i < 3 ∧ y = .tup [.int (i : Nat), .int o] := by
      match i, hy with
      | 0, hy => cases hy; exact ⟨342, by omega, by omega, rfl⟩
      | 1, hy => cases hy; exact ⟨176, by omega, by omega, rfl⟩
      | 2, hy => cases hy; exact ⟨341, by omega, by omega, rfl⟩
    obtain ⟨o, ho, hi, rfl⟩ := hs
    refine ⟨[n "k", n "own"], _, rfl, rfl, rfl, by decide, tests_nil ?_⟩
    refine ev_binop <| ev_name rfl <| ev_call <| ev_blt rfl rfl rfl ⟨rfl, trivial, el_cons <| EvF.ev <| ef_comp (fun items i acc => (∀ y ∈ items, ∃ x : Int, y = .int x) ∧ ∃ es : List Int, acc = es.map .int ∧ ∀ d ∈ es, 0 ≤ d) <| evi_list <| ev_slice <| ev_slice <| ev_name rfl <| ev_int ⟨_, rfl, sl_arg (by omega) (by decide) <| ev_name rfl ⟨_, rfl, ev_int ⟨_, rfl, sl_list ?_ (by decide) ⟨_, rfl, trivial, ?_, ⟨?_, [], rfl, by simp⟩, ?_, ?_⟩⟩⟩⟩⟩
    · have := pickV_len (l := ns.map V.int) (lo := none) (hi := some 63) (st := none)
      rw [List.length_map] at this; omega
    · have := pickV_len (l := ns.map V.int) (lo := none) (hi := some 63) (st := none)
      have h2 := pickV_len (l := pickV (ns.map V.int) none (some 63) none) (lo := some (i : Nat)) (hi := none) (st := some 3)
      rw [List.length_map] at this; omega
    · intro y hy
      have := pickV_sub (pickV_sub hy)
      obtain ⟨x, _, rfl⟩ := List.mem_map.mp this
      exact ⟨x, rfl⟩
    · rintro C' j z acc' hz ⟨hin, es, rfl, he⟩
      obtain ⟨x, rfl⟩ := hin z (List.mem_of_getElem? hz)
      refine ⟨rfl, tests_nil ?_⟩
      refine ev_binop <| ev_name rfl <| ev_binop <| ev_int <| ev_int <| op_pow (by omega) (by omega) (by decide) <| op_mod (by decide) ⟨hin, es ++ [x % 10 ^ 6], by simp, ?_⟩
      intro d hd
      rcases List.mem_append.mp hd with q | q
      · exact he d q
      · rw [List.mem_singleton.mp q]; exact Int.emod_nonneg _ (by decide)
    · rintro acc' ⟨_, es, rfl, he⟩
      refine el_nil <| fn_sum <| op_add ⟨ds ++ [o + es.sum], by simp, by simp [hds], ?_⟩
      have hnn := sum_nonneg he
      intro d hd
      rcases List.mem_append.mp hd with q | q
      · exact hd0 d q
      · rw [List.mem_singleton.mp q]; omega
  rintro acc ⟨ds, rfl, hds, hd0⟩
  obtain ⟨d0, d1, d2, rfl⟩ : ∃ d0 d1 d2, ds = [d0, d1, d2] := by
    match ds, hds with
    | [a, b, c], _ => exact ⟨a, b, c, rfl⟩
  obtain ⟨D0, rfl⟩ := Int.eq_ofNat_of_zero_le (hd0 d0 (by simp))
  obtain ⟨D1, rfl⟩ := Int.eq_ofNat_of_zero_le (hd0 d1 (by simp))
  obtain ⟨D2, rfl⟩ := Int.eq_ofNat_of_zero_le (hd0 d2 (by simp))
  clear hd0 hds
  -- the leads' runs
  refine ex_cons <| ex_assign (.inl rfl) <| ev_call <| ev_glob rfl rfl ⟨rfl, rfl, el_cons <| ev_item <| ev_name rfl <| ev_int <| it_at0 <| el_nil <| fn_runs ?_⟩
  obtain ⟨ok1, ok4⟩ := runsOf_ok D0
  generalize runsOf D0 = r at ok1 ok4
  refine ex_cons <| ex_assign (.inl rfl) <| ev_call <| ev_glob rfl rfl ⟨rfl, rfl, el_cons <| ev_name rfl <| el_cons <| ev_item <| ev_name rfl <| ev_int <| it_at1 <| el_nil <| fn_other ok1.1 (by have := ok1.2.1; omega) ?_⟩
  have ok2 := otherOf_ok ok1 ok4 D1
  generalize otherOf r D1 = q at ok2
  obtain ⟨inn, hinn⟩ : ∃ k, k = D2 % 6 := ⟨_, rfl⟩
  obtain ⟨out, hout⟩ : ∃ k, k = D2 / 6 % 5 := ⟨_, rfl⟩
  obtain ⟨ko, hko⟩ : ∃ k, k = D2 / 30 % 8 := ⟨_, rfl⟩
  obtain ⟨kf, hkf⟩ : ∃ k, k = D2 / 240 % 3 := ⟨_, rfl⟩
  refine ex_cons <| ex_assign (.inr ⟨rfl, _, rfl⟩) <| ev_binop <| ev_item <| ev_name rfl <| ev_int <| it_list (y := .int (D2 : Nat)) (by decide) (Nat.le_of_ble_eq_true rfl) rfl <| ev_int <| op_mod (by decide) ?_
  rw [show ((D2 : Nat) : Int) % 6 = (inn : Nat) by omega]
  refine ex_cons <| ex_assign (.inr ⟨rfl, _, rfl⟩) <| ev_binop <| ev_binop <| ev_item <| ev_name rfl <| ev_int <| it_list (y := .int (D2 : Nat)) (by decide) (Nat.le_of_ble_eq_true rfl) rfl <| ev_int <| op_fdiv (by decide) (by decide) <| ev_int <| op_mod (by decide) ?_
  rw [show ((D2 : Nat) : Int) / 6 % 5 = (out : Nat) by omega]
  have hin6 : inn < 6 := hinn ▸ Nat.mod_lt _ (by decide)
  have hout5 : out < 5 := hout ▸ Nat.mod_lt _ (by decide)
  have hko8 : ko < 8 := hko ▸ Nat.mod_lt _ (by decide)
  have hkf3 : kf < 3 := hkf ▸ Nat.mod_lt _ (by decide)
  -- the signs' order
  have s8 : signs8.length = 8 := rfl
  have r2 : repL 2 signs8 = signs8 ++ signs8 := rfl
  refine ex_cons <| ex_assign (.inl rfl) <| ev_slice <| ev_slice <| ev_binop <| ev_strL order_lit <| ev_int <| op_muls (by decide) (by decide) <| ev_binop <| ev_binop <| ev_item <| ev_name rfl <| ev_int <| it_list (y := .int (D2 : Nat)) (by decide) (Nat.le_of_ble_eq_true rfl) rfl <| ev_int <| op_fdiv (by decide) (by decide) <| ev_int <| op_mod (by decide) ⟨_, rfl, sl_str (by show 16 ≤ _; omega) ?_⟩
  rw [show ((D2 : Nat) : Int) / 30 % 8 = (ko : Nat) by omega, show (2 : Int).toNat = 2 by rfl, r2, sliceL_sn (by show ko ≤ 16; omega)]
  have hdl : ((signs8 ++ signs8).drop ko).length = 16 - ko := by rw [List.length_drop]; rfl
  refine ev_int ⟨_, rfl, sl_str (by omega) ?_⟩
  rw [show (8 : Int) = ((8 : Nat) : Int) by rfl, sliceL_ns (by omega)]
  show thenS _ _ _ _ _ (.next ((_ : Store).set (n "order") (.val (.str (orderOf ko)))))
  obtain ⟨o8, osub, oa⟩ := order_ok ko hko8
  -- what the hands write
  refine ex_cons <| ex_assign (.inr ⟨rfl, _, rfl⟩) <| EvF.ev <| ef_comp _ <| evi_str <| ev_name rfl ⟨_, rfl, CompOk.map (told2V inn out) (by rw [List.length_map]; omega) (fun C y hy => ?_) ?_⟩
  · obtain ⟨ch, hch, rfl⟩ := List.mem_map.mp hy
    refine ⟨rfl, ev_call <| ev_glob rfl rfl ⟨rfl, rfl, el_cons <| ev_name (y := .int (out : Nat)) ?_ <| el_cons <| ev_call <| ev_glob rfl rfl ⟨rfl, rfl, el_cons <| ev_name (y := .int (inn : Nat)) ?_ <| el_cons <| ev_name rfl <| el_nil <| fn_told hin6 (by simp) <| el_nil <| fn_told (by omega) (by have := toldF_len hin6 [ch]; simp at this; omega) rfl⟩⟩⟩
    · exact set_ne (by decide) (compσ_val rfl (kcell _ rfl) rfl)
    · exact set_ne (by decide) (compσ_val rfl (kcell _ rfl) rfl)
  have etold : ((orderOf ko).map fun ch => V.str [ch]).map (told2V inn out) = (toldL inn out ko).map .str := by
    unfold toldL; rw [List.map_map, List.map_map]; rfl
  rw [etold]
  have htl : (toldL inn out ko).length = 8 := by unfold toldL; rw [List.length_map]; exact o8
  have hta : [97] ∈ toldL inn out ko := by
    unfold toldL
    exact List.mem_map.mpr ⟨97, oa, a_told inn hin6 out hout5⟩
  have htg : ∀ i, i < 8 → ∃ ch, (orderOf ko)[i]? = some ch ∧ (toldL inn out ko).getD i [] = told2 inn out ch ∧ UnitOk inn out ch ∧ ch ∈ signs8 := fun i hi => by
    have hi' : i < (orderOf ko).length := by omega
    refine ⟨(orderOf ko)[i], List.getElem?_eq_getElem hi', ?_, unit_of hin6 hout5 (osub _ (List.getElem_mem hi')), osub _ (List.getElem_mem hi')⟩
    unfold toldL
    rw [List.getD_eq_getElem?_getD, List.getElem?_map, List.getElem?_eq_getElem hi']; rfl
  have htw : ∀ t ∈ toldL inn out ko, t.length ≤ 10 := fun t ht => by
    unfold toldL at ht
    obtain ⟨ch, hch, rfl⟩ := List.mem_map.mp ht
    exact (unit_of hin6 hout5 (osub ch hch)).len
  generalize hts : toldL inn out ko = ts at htl hta htg htw
  have htsl : (ts.map V.str).length = 8 := by rw [List.length_map]; exact htl
  -- the sizes
  have hrq : r ++ q ≠ [] := fun z => ok1.1 (List.append_eq_nil_iff.mp z).1
  have hM5 : mxR (r ++ q) ≤ 5 := by
    have := mxR_mem hrq
    rcases List.mem_append.mp this with z | z
    · exact ok1.2.2 _ z
    · exact ok2.2.2 _ z
  have hMe : mxR (r ++ q) = max (mxR r) (mxR q) := mxR_append r q
  have lr := ok1.2.1
  have lq := ok2.2.1
  have nlr := natsV_len r
  have nlq := natsV_len q
  refine ex_cons <| ex_assign_comp (fun items i acc => acc = (items.take i).map (nearV ts)) rfl <| evi_range <| ev_call <| ev_blt rfl rfl rfl ⟨rfl, trivial, el_cons <| ev_int <| el_cons <| ev_binop <| ev_call <| ev_blt rfl rfl rfl ⟨rfl, trivial, el_cons <| EvF.ev <| ef_binop <| ev_name (y := .list (natsV r)) rfl <| ev_name (y := .list (natsV q)) rfl <| opf_addl (by omega) ?_⟩⟩
  rw [show natsV r ++ natsV q = ((r ++ q).map fun k : Nat => (k : Int)).map .int by unfold natsV; rw [List.map_map, List.map_append]; rfl]
  refine el_nil <| fn_max (fun z => hrq (List.map_eq_nil_iff.mp z)) fun Mx hMx hge => ?_
  have hMx2 := max_is hrq hMx hge
  subst hMx2
  clear hMx hge
  generalize mxR (r ++ q) = M at hM5 hMe
  refine ev_int <| op_add <| el_nil <| fn_range2 ⟨_, _, rfl, small_one (by decide) (by decide) (by omega) (by omega), CompOk.map (nearV ts) (by rw [rngL_len]; omega) (fun C y hy => ?_) ?_⟩
  · obtain ⟨j, hj⟩ := List.getElem?_of_mem hy
    obtain ⟨rfl, hj2⟩ := rngL_get hj
    obtain ⟨s, hs⟩ : ∃ s, s = j + 1 := ⟨_, rfl⟩
    rw [show (1 : Int) + (j : Nat) = (s : Nat) by omega]
    refine ⟨rfl, ev_tuple <| el_cons <| ev_call <| ev_glob rfl rfl ⟨rfl, rfl, el_cons <| ev_name (y := .list (ts.map .str)) ?_ <| el_cons <| ev_name rfl <| el_nil <| fn_pick (by omega) (by omega) hta (by omega) (fun t ht => by have := htw t ht; omega) <| el_cons <| ev_name rfl <| el_nil ⟨Nat.le_of_ble_eq_true rfl, ?_⟩⟩⟩
    · exact set_ne (by decide) (compσ_val rfl (kcell _ rfl) rfl)
    · show _ = V.tup [.int (pickOf ts ((s : Nat) : Int).toNat : Nat), .int (s : Nat)]
      rw [Int.toNat_natCast]
  rw [near_eq]
  obtain ⟨s0, hs0⟩ : ∃ s0, s0 = (ts.getD 0 []).length + kf := ⟨_, rfl⟩
  have hs0a : 1 ≤ s0 ∧ s0 ≤ 12 := by
    obtain ⟨ch, _, e, u, _⟩ := htg 0 (by decide)
    have := head_len u.once
    have := u.len
    rw [e] at hs0; omega
  refine ex_cons <| ex_assign (.inl rfl) <| ev_list <| el_cons <| ev_tuple <| el_cons <| ev_int <| el_cons <| ev_binop <| ev_call <| ev_blt rfl rfl rfl ⟨rfl, trivial, el_cons <| ev_item <| ev_name (y := .list (ts.map .str)) rfl <| ev_int <| it_list (y := .str (ts.getD 0 [])) (by decide) (by omega) (strs_get (i := 0) (by omega)) <| el_nil <| fn_len_str (by omega) <| ev_binop <| ev_binop <| ev_item <| ev_name rfl <| ev_int <| it_list (y := .int (D2 : Nat)) (by decide) (Nat.le_of_ble_eq_true rfl) rfl <| ev_int <| op_fdiv (by decide) (by decide) <| ev_int <| op_mod (by decide) <| op_add ?_⟩
  rw [show (((ts.getD 0 []).length : Nat) : Int) + ((D2 : Nat) : Int) / 240 % 3 = (s0 : Nat) by omega]
  refine el_nil ⟨Nat.le_of_ble_eq_true rfl, el_nil ⟨Nat.le_of_ble_eq_true rfl, ?_⟩⟩
  -- the leads
  refine ex_cons <| ex_assign (.inl rfl) <| ev_call <| ev_glob rfl rfl ⟨rfl, rfl, el_cons <| ev_name (y := .list (natsV r)) rfl <| el_nil <| fn_lead (by omega) ok1.2.2 ?_⟩
  refine ex_cons <| ex_assign (.inl rfl) <| ev_call <| ev_glob rfl rfl ⟨rfl, rfl, el_cons <| ev_name (y := .list (natsV q)) rfl <| el_nil <| fn_lead (by omega) ok2.2.2 ?_⟩
  refine ex_cons <| ex_assign_own (.inl rfl) <| ef_list <| el_nil ⟨Nat.le_of_ble_eq_true rfl, ?_⟩
  have PR := leadPair ok1 ok2
  have PS := leadPair ok2 ok1
  have cR := fun s (hs : 1 ≤ s) => lvl_lead (ts := s) hs r
  have cQ := fun s (hs : 1 ≤ s) => lvl_lead (ts := s) hs q
  have bR := fun s (hs : 1 ≤ s) => colR_le hs r 0 ok1.2.2
  have bQ := fun s (hs : 1 ≤ s) => colR_le hs q 0 ok2.2.2
  have lR : (leadW r).count.length ≤ 1000000 := by have := PR.small.1; omega
  have lQ : (leadW q).count.length ≤ 1000000 := by have := PR.small.2; omega
  generalize hu : leadW r = u at PR PS cR lR
  generalize hv : leadW q = v at PR PS cQ lQ
  generalize leadT r ++ [120, 9] = l1
  generalize leadT q ++ [120, 9] = l2
  obtain ⟨prs, hprs⟩ : ∃ prs, prs = nearL ts M ++ [(0, s0)] := ⟨_, rfl⟩
  have hpl : prs.length = M + 2 := by rw [hprs]; simp [nearL]
  have hpr : ∀ p ∈ prs, p.1 < 8 ∧ 1 ≤ p.2 ∧ p.2 ≤ 12 ∧ (ts.getD p.1 []).length ≤ p.2 := fun p hp => by
    rw [hprs] at hp
    rcases List.mem_append.mp hp with hp | hp
    · unfold nearL at hp
      obtain ⟨i, hi, rfl⟩ := List.mem_map.mp hp
      rw [List.mem_range] at hi
      have := pick_steps (ts := ts) (size := i + 1) (by omega) hta ts.length (Nat.le_refl _)
      exact ⟨by rw [← htl]; exact this.1, by simp, by show i + 1 ≤ 12; omega, this.2⟩
    · rw [List.mem_singleton.mp hp]
      exact ⟨by show (0 : Nat) < 8; decide, hs0a.1, hs0a.2, by show (ts.getD 0 []).length ≤ s0; omega⟩
  refine ex_mid (fun τ => τ (n "one") = some (.val (wObj l1 u)) ∧ τ (n "two") = some (.val (wObj l2 v)) ∧ τ (n "rows") = some (.own ((prs.map fun p => rowT u v p.2).map tupI))) ?m1 ?m2
  case m1 =>
    refine ex_for (fun items i τ => items = prs.map pairV ∧ (τ (n "one") = some (.val (wObj l1 u)) ∧ τ (n "two") = some (.val (wObj l2 v)) ∧ τ (n "first") = some (.val (.list (natsV r))) ∧ τ (n "second") = some (.val (.list (natsV q))) ∧ τ (n "inner") = some (.val (.int inn)) ∧ τ (n "outer") = some (.val (.int out)) ∧ τ (n "order") = some (.val (.str (orderOf ko))) ∧ τ (n "told") = some (.val (.list (ts.map .str)))) ∧
        τ (n "rows") = some (.own (((prs.take i).map fun p => rowT u v p.2).map tupI)))
      (evi_list <| EvF.ev <| ef_binop <| ev_name (y := .list ((nearL ts M).map pairV)) rfl <| ev_name (y := .list [.tup [.int 0, .int (s0 : Nat)]]) rfl <| opf_addl (by simp [nearL]; omega) ⟨_, rfl, ?_, ⟨?_, ⟨rfl, rfl, rfl, rfl, rfl, rfl, rfl, rfl⟩, rfl⟩, ?_, ?_⟩)
    · intro y hy
      have : y ∈ prs.map pairV := by rw [hprs, List.map_append]; exact hy
      obtain ⟨p, _, rfl⟩ := List.mem_map.mp this
      exact ⟨_, rfl⟩
    · rw [hprs, List.map_append]; rfl
    · rintro i y τ hy ⟨hitems, ⟨t1, t2, t3, t4, t5, t6, t7, t8⟩, t9⟩
      rw [hitems, List.getElem?_map] at hy
      obtain ⟨⟨b, s⟩, hp, rfl⟩ := Option.map_eq_some_iff.mp hy
      obtain ⟨hb8, hs1, hs12, hbs⟩ := hpr _ (List.mem_of_getElem? hp)
      simp only at hb8 hs1 hs12 hbs
      obtain ⟨ch, hch, hT, uk, hch8⟩ := htg b hb8
      refine ⟨[n "best", n "size"], _, rfl, rfl, rfl, (by
        intro x hx
        simp only [List.mem_cons, List.not_mem_nil, or_false] at hx
        rcases hx with rfl | rfl
        · exact .inl rfl
        · exact .inl rfl), ?_⟩
      obtain ⟨u1, u2, u3, u4, u5⟩ := uk
      have he6 := esc6 inn hin6 ch hch8
      generalize told2 inn out ch = T at hT u1 u2 u3 u4 u5
      rw [hT] at hbs
      obtain ⟨k, hk⟩ : ∃ k, k = s - T.length := ⟨_, rfl⟩
      have hTg : (ts.map V.str)[((b : Nat) : Int).toNat]? = some (.str T) := by rw [← hT]; exact strs_get (by omega)
      have hT1 := head_len u1
      have hUl : (T ++ List.replicate k 98).length = s := by rw [List.length_append, List.length_replicate]; omega
      have hUo := unit_more u1 u4 k
      have hUd : 46 ∉ T ++ List.replicate k 98 := fun z => by
        rcases List.mem_append.mp z with z | z
        · exact u2 z
        · have := List.eq_of_mem_replicate z; omega
      refine ex_cons <| ex_assign (.inl rfl) <| ev_binop <| ev_strL b_lit <| ev_binop <| ev_name rfl <| ev_call <| ev_blt rfl rfl rfl ⟨rfl, trivial, el_cons <| ev_item <| ev_name (y := .list (ts.map .str)) t8 <| ev_name rfl <| it_list (y := .str T) (by omega) (by omega) hTg <| el_nil <| fn_len_str (by omega) <| op_sub ?_⟩
      rw [show ((s : Nat) : Int) - (T.length : Nat) = (k : Nat) by omega]
      refine op_muls (by rw [Int.toNat_natCast]; show 1 * k ≤ _; omega) (by omega) ?_
      rw [Int.toNat_natCast, repL_b]
      have hX := cR s hs1
      have hY := cQ s hs1
      have hXb := bR s hs1
      have hYb := bQ s hs1
      have hX68 : colR s r 0 ≤ 68 := Nat.le_trans hXb (by rw [Nat.zero_add]; exact Nat.le_trans (Nat.mul_le_mul (show r.length ≤ 4 by omega) (show 5 + s ≤ 17 by omega)) (by decide))
      have hY68 : colR s q 0 ≤ 68 := Nat.le_trans hYb (by rw [Nat.zero_add]; exact Nat.le_trans (Nat.mul_le_mul (show q.length ≤ 4 by omega) (show 5 + s ≤ 17 by omega)) (by decide))
      obtain ⟨X, hXe⟩ : ∃ X, X = colR s r 0 := ⟨_, rfl⟩
      obtain ⟨Y, hYe⟩ : ∃ Y, Y = colR s q 0 := ⟨_, rfl⟩
      rw [← hXe] at hX hX68
      rw [← hYe] at hY hY68
      obtain ⟨q1, q2, q3⟩ := cap_ok (x := X) (y := Y) hs1
      refine ex_cons <| ex_assign (.inl rfl) <| ev_ometh (f := 45) <| ev_name t1 ⟨⟨76, wsNames, _, rfl, by decide, by rfl, by rfl⟩, el_cons <| ev_name rfl <| el_nil <| fn_lvl hs1 (by omega) lR ?_⟩
      rw [hX]
      refine ex_cons <| ex_assign (.inl rfl) <| ev_ometh (f := 45) <| ev_name t2 ⟨⟨76, wsNames, _, rfl, by decide, by rfl, by rfl⟩, el_cons <| ev_name rfl <| el_nil <| fn_lvl hs1 (by omega) lQ ?_⟩
      rw [hY]
      refine ex_cons <| ex_assign (.inl rfl) <| ev_binop <| ev_binop <| ev_call <| ev_blt rfl rfl rfl ⟨rfl, trivial, el_cons <| ev_name rfl <| el_cons <| ev_name rfl <| el_nil <| fn_max2 <| ev_name rfl <| op_fdiv (by omega) (by omega) <| ev_int <| op_add ?_⟩
      obtain ⟨m, hm⟩ : ∃ m, m = max X Y / s + 3 := ⟨_, rfl⟩
      rw [max_nat, show ((max X Y : Nat) : Int) / (s : Nat) + 3 = (m : Nat) by rw [hm]; push_cast; rfl]
      rw [← hm] at q1 q2 q3
      have hm71 : m ≤ 71 := by have := Nat.div_le_self (max X Y) s; omega
      have n1 : ([ch] ++ List.replicate k 98).length = 1 + k := by rw [List.length_append, List.length_replicate]; rfl
      have n2 : (repL m ([ch] ++ List.replicate k 98)).length ≤ 10000 := by
        rw [rep_len, n1]
        exact Nat.le_trans (Nat.mul_le_mul hm71 (show 1 + k ≤ 13 by omega)) (by decide)
      have n3 : (escF (escP inn) (repL m ([ch] ++ List.replicate k 98))).length ≤ 10000 := by
        rw [esc_unit hin6, rep_len, List.length_append, List.length_replicate]
        exact Nat.le_trans (Nat.mul_le_mul hm71 (show (escF (escP inn) [ch]).length + k ≤ 18 by omega)) (by decide)
      have n4 : (repL m (T ++ List.replicate k 98)).length ≤ 1000 := by rw [rep_len, hUl]; omega
      refine ex_cons <| ex_assign (.inl rfl) <| ev_call <| ev_glob rfl rfl ⟨rfl, rfl, el_cons <| ev_name t6 <| el_cons <| ev_call <| ev_glob rfl rfl ⟨rfl, rfl, el_cons <| ev_name t5 <| el_cons <| ev_binop <| ev_binop <| ev_item <| ev_name (y := .str (orderOf ko)) t7 <| ev_name rfl <| it_str (ch := ch) (by omega) (by omega) (by rw [Int.toNat_natCast]; exact hch) <| ev_name (y := .str (List.replicate k 98)) rfl <| op_adds (by rw [List.length_replicate]; show 1 + k ≤ _; omega) <| ev_name (y := .int (m : Nat)) rfl <| op_muls (by rw [Int.toNat_natCast, n1, Nat.mul_comm, ← n1, ← rep_len]; omega) (by omega) ?_⟩⟩
      rw [Int.toNat_natCast]
      refine el_nil <| fn_hand hin6 n2 <| el_nil <| fn_hand (by omega) n3 ?_
      rw [esc_unit2 hin6 (by omega), u5]
      refine ex_cons <| ex_if <| et_cmp <| ev_name rfl <| ev_binop <| ev_binop <| ev_item <| ev_name (y := .list (ts.map .str)) t8 <| ev_name rfl <| it_list (y := .str T) (by omega) (by omega) hTg <| ev_name (y := .str (List.replicate k 98)) rfl <| op_adds (by rw [List.length_replicate]; omega) <| ev_name (y := .int (m : Nat)) rfl <| op_muls (by rw [Int.toNat_natCast, Nat.mul_comm, ← rep_len]; omega) (by omega) ?_
      rw [Int.toNat_natCast]
      refine op_nes <| tt_bool ?_
      rw [bne_self_eq_false]
      refine ex_nil ?_
      refine ex_cons <| ex_if <| et_or <| et_not <| et_plain <| ev_call <| ev_glob rfl rfl ⟨rfl, rfl, el_cons <| ev_name t3 <| el_cons <| ev_name (y := .int (X : Nat)) rfl <| el_cons <| ev_name (y := .int (Y : Nat)) rfl <| el_cons <| ev_name (y := .int (s : Nat)) rfl <| el_cons <| ev_name (y := .str (repL m (T ++ List.replicate k 98))) rfl <| el_nil <| fn_fits' hUl hXe.symm hUo hUd ok1.1 (by omega) ok1.2.2 q1 (by omega) (by omega) <| tt_bool ?_⟩
      show EvT _ _ _ _ _ _
      refine et_not <| et_plain <| ev_call <| ev_glob rfl rfl ⟨rfl, rfl, el_cons <| ev_name t4 <| el_cons <| ev_name (y := .int (Y : Nat)) rfl <| el_cons <| ev_name (y := .int (X : Nat)) rfl <| el_cons <| ev_name (y := .int (s : Nat)) rfl <| el_cons <| ev_name (y := .str (repL m (T ++ List.replicate k 98))) rfl <| el_nil <| fn_fits' hUl hYe.symm hUo hUd ok2.1 (by omega) ok2.2.2 q2 (by omega) (by omega) <| tt_bool ?_⟩
      refine ex_nil ?_
      refine ex_cons <| ex_append (l := ((prs.take i).map fun p : Nat × Nat => rowT u v p.2).map tupI) t9 (by rw [List.length_map, List.length_map, List.length_take]; omega) <| ev_tuple <| el_cons <| ev_name (y := .int (s : Nat)) rfl <| el_cons <| ev_name (y := .int (X : Nat)) rfl <| el_cons <| ev_name (y := .int (Y : Nat)) rfl <| el_nil ⟨Nat.le_of_ble_eq_true rfl, ex_nil ⟨hitems, ⟨t1, t2, t3, t4, t5, t6, t7, t8⟩, ?_⟩⟩
      show some (Slot.own _) = some (Slot.own _)
      congr 2
      rw [List.take_add_one, hp, List.map_append, List.map_append]
      congr 1
      show [V.tup [.int (s : Nat), .int (X : Nat), .int (Y : Nat)]] = [V.tup [.int (s : Nat), .int (lvl u s : Nat), .int (lvl v s : Nat)]]
      rw [hX, hY]
    · rintro τ ⟨hitems, ⟨t1, t2, _⟩, t9⟩
      rw [hitems, List.length_map, List.take_length] at t9
      exact ⟨t1, t2, t9⟩
  rintro τ ⟨t1, t2, t3⟩
  refine ex_freeze t3 ?_
  have hdrop : ((prs.map fun p => rowT u v p.2).map tupI).dropLast = (rowsL u v (max (mxR r) (mxR q) + 1)).map tupI := by
    rw [hprs, List.map_append, List.map_append, rows_near, hMe]
    show (_ ++ [_]).dropLast = _
    rw [List.dropLast_concat]
  have hrl : ((prs.map fun p => rowT u v p.2).map tupI).length ≤ 100 := by rw [List.length_map, List.length_map]; omega
  have hrl2 : ((rowsL u v (max (mxR r) (mxR q) + 1)).map tupI).length ≤ 100 := by rw [← hdrop, List.length_dropLast]; omega
  generalize hσ : τ.set (n "rows") (.val (.list ((prs.map fun p => rowT u v p.2).map tupI))) = σ'
  have v1 : σ' (n "one") = some (.val (wObj l1 u)) := by rw [← hσ]; exact t1
  have v2 : σ' (n "two") = some (.val (wObj l2 v)) := by rw [← hσ]; exact t2
  have v3 : σ' (n "rows") = some (.val (.list ((prs.map fun p => rowT u v p.2).map tupI))) := by rw [← hσ]; rfl
  refine ex_cons <| ex_assign_comp (fun items i acc => acc = (items.take i).map swapV) rfl <| evi_list <| ev_slice <| ev_name v3 <| ev_unary <| ev_int <| op_neg ⟨_, rfl, sl_list (by omega) (by decide) ?_⟩
  rw [pickV_init, hdrop]
  refine ⟨_, rfl, fun y hy => ?_, CompOk.map swapV (by omega) (fun C y hy => ?_) ?_⟩
  · obtain ⟨a, x, z, rfl⟩ := row_mem hy
    exact ⟨_, rfl⟩
  · obtain ⟨a, x, z, rfl⟩ := row_mem hy
    refine ⟨[n "size", n "x", n "y"], _, rfl, rfl, rfl, by decide, ?_⟩
    exact ev_tuple <| el_cons <| ev_name rfl <| el_cons <| ev_name rfl <| el_cons <| ev_name rfl <| el_nil ⟨Nat.le_of_ble_eq_true rfl, rfl⟩
  rw [rows_swap]
  refine ex_cons <| ex_return <| ev_and <| ev_call <| ev_glob rfl rfl ⟨rfl, rfl, el_cons <| ev_name v1 <| el_cons <| ev_name v2 <| el_cons <| ev_slice <| ev_name v3 <| ev_unary <| ev_int <| op_neg ⟨_, rfl, sl_list (by omega) (by decide) ?_⟩⟩
  rw [pickV_init, hdrop]
  refine el_nil <| fn_verdicts PR <| tt_bool ?_
  show EvE _ _ _ _ _ _
  refine ev_call <| ev_glob rfl rfl ⟨rfl, rfl, el_cons <| ev_name v2 <| el_cons <| ev_name v1 <| el_cons <| ev_name rfl ?_⟩
  rw [Nat.max_comm (mxR r) (mxR q)]
  exact el_nil <| fn_verdicts PS h
end Mine

namespace Mine
theorem law_call {c : Cx} {f : Value} {s₁ : Shared} {a : Addr} {vs : List Value} {ns : List Int} {A : Around} {Q : Value → Shared → Prop} {E : Value → Shared → Prop} (ok : c.Ok s₁.heap) (hL : s₁.heap.IsList a vs.toArray) (hI : IntsAre vs ns) (R : Room 10 A)
    (h : Fn c 10 f [.arg ns] fun x => x = .bool true) (q : ∀ h' tk, Ext s₁.heap h' → Q (.bool true) { s₁ with heap := h', toks := tk }) : wpAny c.M A (call f [.ref a]) Q E s₁ := by
  refine wpAny_mono (h (fun _ => False) s₁ [.ref a] ⟨ok, Nat.zero_le _, fun a z => z.elim⟩ ?_ A Q R fun v x h' tk k ht' r hx => ?_) (fun _ _ z => z) fun _ _ z => z.elim
  · refine RepL.cons ?_ RepL.nil
    rw [Rep]
    exact ⟨a, vs, rfl, id, hL, hI⟩
  · subst hx
    rw [Rep] at r
    subst r
    exact q h' tk k
end Mine
set_option maxHeartbeats 0 in
theorem PySem.Challenge.cw_rl0116_01_holds : PySem.Challenge.rw_rl0116_01.Holds := by
  refine Mine.hd (by rfl) (by rfl) (by rfl) ?_
  intro w s₀ s₁ mg mb G Y fa o pm cd doc dV kV ho hd hcd hD hmg hg args vals as hpre hlay hrd hwl hlo
  have KX := kIn_of Y
  refine Ground.open G ?_
  intro T B D TE TW
  wrow_args hpre hlay hrd hwl hlo
  have ok : (Mine.cx w (ExcName.means s₀.heap) mg mb).Ok s₁.heap := ⟨KX, T⟩
  have hfa : fa = 180 := by
    have h2 := mg_of (mg := mg) KX T.g (n := Str.ofString "law") (v := .ref 180) (by rfl)
    exact Value.ref.inj (Option.some.inj (hmg.symm.trans h2))
  subst hfa
  rename_i w5 _ _ _ _ _ _ _ _ w1 _ hL _ _ _ hI _ hc _
  refine Mine.law_call (c := Mine.cx w (ExcName.means s₀.heap) mg mb) ok hL hI ⟨rfl, by decide, by decide⟩ (Mine.fn_law (d := 6) (by omega) rfl) fun h' tk k => ?_
  refine GoodW.toG ⟨.inl ⟨.bool true, .bool true, [], rfl, fun cls => ?_, .bool true, ?_, fun _ => ⟨List.nodup_nil, by simp⟩⟩, k, rfl, hg⟩
  · rfl
  · exact postW_of rfl (w_eq_bool (k := true) (l := true) (w_res rfl) w_lit) rfl
