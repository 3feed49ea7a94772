import PyProof.Rows.All
import Wide.All
import OpenK.AllK
import Wide.FinOn
import PySem.Challenge.RW_sn0049_03
open PySem PySem.W PySem.Calls PyProof.Rows PySem.Spec
set_option Elab.async false
set_option linter.unusedVariables false
section
set_option maxRecDepth 10000
namespace Mine

/-- values without their tokens -/
inductive V where
  | none
  | bool (b : Bool)
  | int (i : Int)
  | str (s : Str)
  | ref (a : Addr)
  | abs (v : Value)

def Rz : V → Value → Prop
  | .none, v => v = .none
  | .bool b, v => v = .bool b
  | .int i, v => ∃ t, v = .int i t
  | .str x, v => ∃ t, v = .str x t
  | .ref a, v => v = .ref a
  | .abs x, v => v = x

def RzL : List V → List Value → Prop
  | [], [] => True
  | x :: xs, y :: ys => Rz x y ∧ RzL xs ys
  | _, _ => False

def RzO : Option V → Option Value → Prop
  | .none, _ => True
  | .some x, .some y => Rz x y
  | _, _ => False

abbrev Ms := List (Nat × V)

/-- what the objects of the call's own are -/
inductive O where
  | list (xs : List V)
  | tuple (xs : List V)
  | frame (names : List Str) (m : Ms)
  | cell (v : Option V)
  | liter (l : Addr) (i : Nat)
  | rng (a b c : Int)
  | riter (x left step : Int)
  | siter (x : Str) (i : Nat)
  | inst (C : Addr) (d : Addr)
  | idict (k : Str) (v : V)
  | edict
  | obj (o : Obj)

def OR : O → Obj → Prop
  | .list xs, o => ∃ vs n, o = ⟨.type "list", .none, .seq vs.toArray n, #[]⟩ ∧ RzL xs vs
  | .tuple xs, o => ∃ vs n, o = ⟨.type "tuple", .none, .seq vs.toArray n, #[]⟩ ∧ RzL xs vs
  | .frame names m, o => ∃ es ep, o.data = .dict es ep ∧ StrKeys es ∧ ∀ i x, names[i]? = some x → RzO (m.lookup i) (nsFind es x)
  | .cell v, o => ∃ u, o.data = .cell u ∧ RzO v u
  | .liter l i, o => o.cls = .type "list_iterator" ∧ o.data = .fields #[.ref l, .int i 0]
  | .rng a b c, o => ∃ t u v, o = ⟨.type "range", .none, .fields #[.int a t, .int b u, .int c v], #[]⟩
  | .riter x left step, o => o = ⟨.type "range_iterator", .none, .fields #[rawInt x, rawInt left, rawInt step], #[]⟩
  | .siter x i, o => ∃ t, o.cls = .type (if x.cps.all (· < 128) then "str_ascii_iterator" else "str_iterator") ∧ o.data = .fields #[.str x t, .int i 0]
  | .inst C d, o => o = ⟨.ref C, some d, .plain, #[]⟩
  | .idict k v, o => ∃ t u n hsh, o = ⟨.type "dict", .none, .dict #[⟨hsh, .str k t, u⟩] n, #[]⟩ ∧ Rz v u
  | .edict, o => o = ⟨.type "dict", .none, .dict #[] 0, #[]⟩
  | .obj x, o => o = x

abbrev Sto := List (Addr × O)

structure Rel (S0 : Shared) (σ : Sto) (s : Shared) : Prop where
  gens : s.gens = S0.gens
  drawn : s.drawn = S0.drawn
  os : s.os = S0.os
  keep : ∀ b o, S0.heap.get? b = some o → s.heap.get? b = some o
  nodup : (σ.map (·.1)).Nodup
  objs : ∀ p ∈ σ, S0.heap.get? p.1 = .none ∧ ∃ o, s.heap.get? p.1 = some o ∧ OR p.2 o

theorem RzL.length {xs : List V} {vs : List Value} (h : RzL xs vs) : xs.length = vs.length := by
  induction xs generalizing vs with
  | nil => cases vs with | nil => rfl | cons => exact h.elim
  | cons x xs ih => cases vs with | nil => exact h.elim | cons v vs => simp [ih h.2]
theorem RzL.get {xs : List V} {vs : List Value} (h : RzL xs vs) {i : Nat} {x : V} (e : xs[i]? = some x) : ∃ v, vs[i]? = some v ∧ Rz x v := by
  induction xs generalizing vs i with
  | nil => simp at e
  | cons y ys ih =>
    cases vs with
    | nil => exact h.elim
    | cons v vs =>
      cases i with
      | zero => simp at e; subst e; exact ⟨v, rfl, h.1⟩
      | succ i => simp at e; simpa using ih h.2 e
theorem RzL.append {xs ys : List V} {vs us : List Value} (h : RzL xs vs) (h' : RzL ys us) : RzL (xs ++ ys) (vs ++ us) := by
  induction xs generalizing vs with
  | nil => cases vs with | nil => exact h' | cons => exact h.elim
  | cons x xs ih => cases vs with | nil => exact h.elim | cons v vs => exact ⟨h.1, ih h.2⟩
theorem RzL.snoc {xs : List V} {y : V} {vs : List Value} {u : Value} (h : RzL xs vs) (h' : Rz y u) : RzL (xs ++ [y]) (vs ++ [u]) := h.append ⟨h', trivial⟩

namespace Rel
variable {S0 : Shared} {σ : Sto} {s : Shared}

theorem lt {p : Addr × O} (R : Rel S0 σ s) (h : p ∈ σ) : p.1 < s.heap.objs.size := let ⟨_, _, ho, _⟩ := R.objs p h; Heap.lt_size ho

theorem toks (R : Rel S0 σ s) (t : Nat) : Rel S0 σ { s with toks := t } := ⟨R.gens, R.drawn, R.os, R.keep, R.nodup, R.objs⟩

theorem grow (R : Rel S0 σ s) {h' : Heap} (k : ∀ b o, s.heap.get? b = some o → h'.get? b = some o) (t : Nat) : Rel S0 σ { s with heap := h', toks := t } :=
  ⟨R.gens, R.drawn, R.os, fun b o e => k _ _ (R.keep b o e), R.nodup, fun p hp => let ⟨a, o, ho, h⟩ := R.objs p hp; ⟨a, o, k _ _ ho, h⟩⟩

theorem sub (R : Rel S0 σ s) {τ : Sto} (h : τ.Sublist σ) : Rel S0 τ s :=
  ⟨R.gens, R.drawn, R.os, R.keep, R.nodup.sublist (h.map _), fun p hp => R.objs p (h.subset hp)⟩
theorem perm (R : Rel S0 σ s) {τ : Sto} (h : σ.Perm τ) : Rel S0 τ s :=
  ⟨R.gens, R.drawn, R.os, R.keep, (h.map (·.1)).nodup R.nodup, fun p hp => R.objs p (h.symm.subset hp)⟩

theorem fresh (R : Rel S0 σ s) : S0.heap.get? s.heap.objs.size = .none := by
  cases e : S0.heap.get? s.heap.objs.size with
  | none => rfl
  | some o => exact absurd (Heap.lt_size (R.keep _ _ e)) (Nat.lt_irrefl _)

theorem alloc (R : Rel S0 σ s) {o : Obj} {x : O} (hx : OR x o) (hf : o.isFreed = false) (t : Nat) : Rel S0 ((s.heap.objs.size, x) :: σ) { s with heap := s.heap.push o, toks := t } := by
  refine ⟨R.gens, R.drawn, R.os, fun b o' e => Heap.get?_push_of_some _ (R.keep b o' e), ?_, ?_⟩
  · rw [List.map_cons, List.nodup_cons]
    refine ⟨fun hm => ?_, R.nodup⟩
    obtain ⟨p, hp, e⟩ := List.mem_map.mp hm
    exact absurd (e ▸ R.lt hp) (Nat.lt_irrefl _)
  · intro p hp
    rcases List.mem_cons.mp hp with rfl | hp
    · exact ⟨R.fresh, o, Heap.get?_push_size _ hf, hx⟩
    · obtain ⟨a, o', ho, h⟩ := R.objs p hp
      exact ⟨a, o', Heap.get?_push_of_some _ ho, h⟩

theorem upd {l1 l2 : Sto} {a : Addr} {x y : O} (R : Rel S0 (l1 ++ (a, x) :: l2) s) {h' : Heap} (hs : Heap.SameBut a s.heap h') {o : Obj} (ho : h'.get? a = some o) (hy : OR y o) (t : Nat) :
    Rel S0 (l1 ++ (a, y) :: l2) { s with heap := h', toks := t } := by
  have hm : (a, x) ∈ l1 ++ (a, x) :: l2 := List.mem_append_right _ (.head _)
  have ha := (R.objs _ hm).1
  have hnd := R.nodup
  rw [List.map_append, List.map_cons, List.nodup_append] at hnd
  obtain ⟨n1, n2, n3⟩ := hnd
  rw [List.nodup_cons] at n2
  refine ⟨R.gens, R.drawn, R.os, fun b o' e => (hs.2 b (fun q => ?_)).trans (R.keep b o' e), ?_, ?_⟩
  · subst q; rw [ha] at e; cases e
  · rw [List.map_append, List.map_cons, List.nodup_append]; exact ⟨n1, List.nodup_cons.mpr n2, n3⟩
  · have other : ∀ p, p ∈ l1 ++ (a, x) :: l2 → p.1 ≠ a → S0.heap.get? p.1 = .none ∧ ∃ o, h'.get? p.1 = some o ∧ OR p.2 o := fun p hp hne => by
      obtain ⟨q, o', ho', h⟩ := R.objs p hp
      exact ⟨q, o', (hs.2 p.1 hne).trans ho', h⟩
    intro p hp
    rcases List.mem_append.mp hp with hp | hp
    · exact other p (List.mem_append_left _ hp) (n3 p.1 (List.mem_map_of_mem hp) a (.head _))
    · rcases List.mem_cons.mp hp with rfl | hp
      · exact ⟨ha, o, ho, hy⟩
      · exact other p (List.mem_append_right _ (.tail _ hp)) (fun q => n2.1 (q ▸ (List.mem_map_of_mem hp : p.1 ∈ l2.map (·.1))))
end Rel

/-- the triple over the whole store -/
def Tr {α : Type} (prog : Program) (w : World) (S0 : Shared) (A : Around) (τ : Sto) (t : Sem α) (P : α → Sto → Prop) : Prop :=
  ∀ s, Rel S0 τ s → ∀ (Q : α → Shared → Prop) (E : Value → Shared → Prop), (∀ a τ' s', Rel S0 τ' s' → P a τ' → Q a s') → wpAny (model prog w) A t Q E s

section
variable {prog : Program} {w : World} {S0 : Shared} {A : Around} {τ : Sto} {α β : Type}

theorem Tr.pure {a : α} {P : α → Sto → Prop} (h : P a τ) : Tr prog w S0 A τ (pure a : Sem α) P := fun s R _ _ k => wpAny_pure (k a τ s R h)
theorem Tr.bind {t : Sem α} {f : α → Sem β} {P : β → Sto → Prop} (h : Tr prog w S0 A τ t (fun a τ' => Tr prog w S0 A τ' (f a) P)) : Tr prog w S0 A τ (t >>= f) P :=
  fun s R Q E k => wpAny_bind (h s R _ E fun a τ' s' R' h' => h' s' R' Q E k)
theorem Tr.mono {t : Sem α} {P P' : α → Sto → Prop} (h : Tr prog w S0 A τ t P) (k : ∀ a τ', P a τ' → P' a τ') : Tr prog w S0 A τ t P' :=
  fun s R Q E k' => h s R Q E fun a τ' s' R' h' => k' a τ' s' R' (k a τ' h')
theorem Tr.weak {τ' : Sto} {t : Sem α} {P : α → Sto → Prop} (k : ∀ s, Rel S0 τ s → Rel S0 τ' s) (h : Tr prog w S0 A τ' t P) : Tr prog w S0 A τ t P :=
  fun s R Q E k' => h s (k s R) Q E k'
theorem Tr.drop {τ' : Sto} {t : Sem α} {P : α → Sto → Prop} (h : Tr prog w S0 A τ t (fun a τ₁ => ∃ τ₂, (∀ s, Rel S0 τ₁ s → Rel S0 τ₂ s) ∧ P a τ₂)) : Tr prog w S0 A τ t P :=
  fun s R Q E k => h s R Q E fun a τ₁ s' R' ⟨τ₂, hw, hp⟩ => k a τ₂ s' (hw s' R') hp
theorem Tr.standAt {p : Pos} {P : Unit → Sto → Prop} (h : P () τ) : Tr prog w S0 A τ (standAt p) P := fun s R _ _ k => wpAny_standAt (k () τ s R h)
theorem Tr.rule {t : String} {P : Unit → Sto → Prop} (h : P () τ) : Tr prog w S0 A τ (rule t) P := fun s R _ _ k => wpAny_rule (k () τ s R h)
theorem Tr.point {P : Unit → Sto → Prop} (h : P () τ) : Tr prog w S0 A τ point P := fun s R _ _ k => wpAny_point (k () τ s R h)
theorem Tr.holding {vs : List Value} {t : Sem α} {P : α → Sto → Prop} (h : Tr prog w S0 A τ t P) : Tr prog w S0 A τ (holding vs t) P :=
  fun s R Q E k => wpAny_holding (h s R Q E k)
theorem Tr.of_eq {t : Sem α} {a : α} {P : α → Sto → Prop} (e : t = Pure.pure a) (h : P a τ) : Tr prog w S0 A τ t P := e ▸ Tr.pure h
end
end Mine
end

section
set_option maxRecDepth 10000
namespace Mine

/-- what the top left: the globals and the built-ins -/
structure Bs (S0 : Shared) (mg mb : Str → Option Value) : Prop where
  g : S0.heap.Ns mainGlobals mg
  b : S0.heap.Ns builtinsNs mb
  lim : S0.heap.NoLimit
  bb : ∀ x : Str, x ≠ "__name__" → mb x = bootBuiltins x

structure Cx where
  A : Around
  env : Env
  names : List Str
  F : Sto
  kind : env.scope.kind = .function
  glob : env.globals = mainGlobals
  blt : env.builtins = builtinsNs
  hand : A.handled = .none
  nd : names.Nodup

def Cx.st (c : Cx) (m : Ms) (σ : Sto) : Sto := (c.env.locals, .frame c.names m) :: (c.F ++ σ)

/-- one store tells the other -/
def Imp (S0 : Shared) (τ τ' : Sto) : Prop := ∀ s, Rel S0 τ s → Rel S0 τ' s
theorem Imp.rfl {S0 : Shared} {τ : Sto} : Imp S0 τ τ := fun _ R => R
theorem Imp.trans {S0 : Shared} {τ τ' τ'' : Sto} (h : Imp S0 τ τ') (h' : Imp S0 τ' τ'') : Imp S0 τ τ'' := fun s R => h' s (h s R)
theorem Imp.perm {S0 : Shared} {τ τ' : Sto} (h : τ.Perm τ') : Imp S0 τ τ' := fun s R => R.perm h
theorem Imp.sub {S0 : Shared} {τ τ' : Sto} (h : τ'.Sublist τ) : Imp S0 τ τ' := fun s R => R.sub h

inductive Upd (a : Addr) (x y : O) : Sto → Sto → Prop
  | head {σ : Sto} : Upd a x y ((a, x) :: σ) ((a, y) :: σ)
  | tail {p : Addr × O} {σ σ' : Sto} : Upd a x y σ σ' → Upd a x y (p :: σ) (p :: σ')
theorem Upd.split {a : Addr} {x y : O} {σ σ' : Sto} (h : Upd a x y σ σ') : ∃ l1 l2, σ = l1 ++ (a, x) :: l2 ∧ σ' = l1 ++ (a, y) :: l2 := by
  induction h with
  | head => exact ⟨[], _, rfl, rfl⟩
  | @tail p _ _ _ ih => obtain ⟨l1, l2, rfl, rfl⟩ := ih; exact ⟨p :: l1, l2, rfl, rfl⟩
theorem Upd.mem {a : Addr} {x y : O} {σ σ' : Sto} (h : Upd a x y σ σ') : (a, x) ∈ σ := by
  obtain ⟨l1, l2, rfl, _⟩ := h.split; exact List.mem_append_right _ (.head _)
theorem Upd.app {a : Addr} {x y : O} {σ σ' : Sto} (h : Upd a x y σ σ') : ∀ F : Sto, Upd a x y (F ++ σ) (F ++ σ')
  | [] => h
  | p :: F => .tail (h.app F)
theorem Upd.mid {a : Addr} {x y : O} {l1 l2 : Sto} : Upd a x y (l1 ++ (a, x) :: l2) (l1 ++ (a, y) :: l2) := Upd.app .head l1
theorem Rel.put {S0 : Shared} {a : Addr} {x y : O} {σ σ' : Sto} {s : Shared} (h : Upd a x y σ σ') (R : Rel S0 σ s) {h' : Heap} (hs : Heap.SameBut a s.heap h') {o : Obj} (ho : h'.get? a = some o) (hy : OR y o) (t : Nat) :
    Rel S0 σ' { s with heap := h', toks := t } := by
  obtain ⟨l1, l2, rfl, rfl⟩ := h.split
  exact R.upd hs ho hy t

variable (prog : Program) (w : World) (S0 : Shared)

def Ev (c : Cx) (e : Expr) (m : Ms) (σ : Sto) (K : V → Sto → Prop) : Prop :=
  Tr prog w S0 c.A (c.st m σ) (eval e c.env) fun v τ => ∃ V σ', Rz V v ∧ Imp S0 τ (c.st m σ') ∧ K V σ'

inductive Fl where
  | next | brk | cont
  | ret (v : V)
def RzF : Fl → Flow → Prop
  | .next, f => f = .next
  | .brk, f => f = .brk
  | .cont, f => f = .cont
  | .ret x, f => ∃ v, f = .ret v ∧ Rz x v

def Ex (c : Cx) (ss : List Stmt) (m : Ms) (σ : Sto) (K : Fl → Ms → Sto → Prop) : Prop :=
  Tr prog w S0 c.A (c.st m σ) (execs ss c.env) fun f τ => ∃ F m' σ', RzF F f ∧ Imp S0 τ (c.st m' σ') ∧ K F m' σ'
def Ex1 (c : Cx) (st : Stmt) (m : Ms) (σ : Sto) (K : Fl → Ms → Sto → Prop) : Prop :=
  Tr prog w S0 c.A (c.st m σ) (exec st c.env) fun f τ => ∃ F m' σ', RzF F f ∧ Imp S0 τ (c.st m' σ') ∧ K F m' σ'

/-- a test -/
def Et (c : Cx) (e : Expr) (m : Ms) (σ : Sto) (K : Bool → Sto → Prop) : Prop :=
  Tr prog w S0 c.A (c.st m σ) (isTrue e c.env (eval e c.env)) fun b τ => ∃ σ', Imp S0 τ (c.st m σ') ∧ K b σ'

/-- an operation of the machine upon values, in a frame -/
def Op (c : Cx) (m : Ms) (σ : Sto) (t : Sem Value) (K : V → Sto → Prop) : Prop :=
  Tr prog w S0 c.A (c.st m σ) t fun v τ => ∃ V σ', Rz V v ∧ Imp S0 τ (c.st m σ') ∧ K V σ'
def Bin (c : Cx) (m : Ms) (σ : Sto) (op : Operator) (x y : V) (K : V → Sto → Prop) : Prop :=
  ∀ v u, Rz x v → Rz y u → Op prog w S0 c m σ (binaryOp op v u) K
def IBin (c : Cx) (m : Ms) (σ : Sto) (op : Operator) (x y : V) (K : V → Sto → Prop) : Prop :=
  ∀ v u, Rz x v → Rz y u → Op prog w S0 c m σ (inplaceOp op v u) K
def Cmp (c : Cx) (m : Ms) (σ : Sto) (op : CmpOp) (x y : V) (K : V → Sto → Prop) : Prop :=
  ∀ v u, Rz x v → Rz y u → Op prog w S0 c m σ (compareOp op v u) K
def Tru (c : Cx) (m : Ms) (σ : Sto) (x : V) (K : Bool → Sto → Prop) : Prop :=
  ∀ v, Rz x v → Tr prog w S0 c.A (c.st m σ) (truthy v) fun b τ => ∃ σ', Imp S0 τ (c.st m σ') ∧ K b σ'
def Sto1 (c : Cx) (m : Ms) (σ : Sto) (n : Str) (x : V) (K : Ms → Sto → Prop) : Prop :=
  ∀ v, Rz x v → Tr prog w S0 c.A (c.st m σ) (storeName c.env n v) fun _ τ => ∃ m' σ', Imp S0 τ (c.st m' σ') ∧ K m' σ'

variable {prog w S0}
section
variable {c : Cx} {m : Ms} {σ : Sto} {K : V → Sto → Prop}

theorem Op.of {t : Sem Value} (h : ∀ s, Rel S0 (c.st m σ) s → ∀ Q E, (∀ v V σ' s', Rel S0 (c.st m σ') s' → Rz V v → K V σ' → Q v s') → wpAny (model prog w) c.A t Q E s) : Op prog w S0 c m σ t K :=
  fun s R Q E k => h s R Q E fun v V σ' s' R' hz hk => k v (c.st m σ') s' R' ⟨V, σ', hz, Imp.rfl, hk⟩
theorem Op.get {t : Sem Value} (h : Op prog w S0 c m σ t K) : ∀ s, Rel S0 (c.st m σ) s → ∀ Q E, (∀ v V σ' s', Rel S0 (c.st m σ') s' → Rz V v → K V σ' → Q v s') → wpAny (model prog w) c.A t Q E s :=
  fun s R Q E k => h s R Q E fun v τ s' R' ⟨V, σ', hz, hi, hk⟩ => k v V σ' s' (hi s' R') hz hk
theorem Op.pure {x : V} {v : Value} (hz : Rz x v) (h : K x σ) : Op prog w S0 c m σ (pure v) K := Op.of fun s R Q E k => wpAny_pure (k v x σ s R hz h)
theorem Op.tok {t : Sem Value} {x : V} (h : K x σ) (ht : ∀ s (Q : Value → Shared → Prop) E, (∀ v tk, Rz x v → Q v { s with toks := tk }) → wpAny (model prog w) c.A t Q E s) : Op prog w S0 c m σ t K :=
  Op.of fun s R Q E k => ht s Q E fun v tk hz => k v x σ _ (R.toks tk) hz h

/- constants -/
theorem ev_int {i : Int} {k : Nat} {p : Pos} (h : K (.int i) σ) : Ev prog w S0 c (.Constant (.int i) k p) m σ K :=
  Op.tok h fun s Q E k => wpAny_Constant_int (k _ _ ⟨_, rfl⟩)
theorem ev_str {x : Str} {k : Nat} {p : Pos} (h : K (.str x) σ) : Ev prog w S0 c (.Constant (.str x) k p) m σ K :=
  Op.tok h fun s Q E k => Constant_str (k _ _ ⟨_, rfl⟩)
theorem ev_bool {b : Bool} {k : Nat} {p : Pos} (h : K (.bool b) σ) : Ev prog w S0 c (.Constant (.bool b) k p) m σ K :=
  Op.of fun s R Q E k => wpAny_pure (k _ (.bool b) _ s R rfl h)
theorem ev_none {k : Nat} {p : Pos} (h : K .none σ) : Ev prog w S0 c (.Constant .none k p) m σ K :=
  Op.of fun s R Q E k => wpAny_pure (k _ .none _ s R rfl h)

theorem frame_ns {names : List Str} {m : Ms} {s : Shared} {L : Addr} {rest : Sto} (R : Rel S0 ((L, .frame names m) :: rest) s) :
    ∃ mm, s.heap.Ns L mm ∧ ∀ i x, names[i]? = some x → RzO (m.lookup i) (mm x) := by
  obtain ⟨_, o, ho, es, ep, hd, hk, hm⟩ := R.objs _ (.head _)
  exact ⟨nsFind es, ⟨o, es, ep, ho, hd, hk, fun _ => rfl⟩, hm⟩

theorem RzO.some {x : V} {u : Option Value} (h : RzO (some x) u) : ∃ v, u = some v ∧ Rz x v := by
  cases u with | none => exact h.elim | some v => exact ⟨v, rfl, h⟩

theorem names_loc {x : Str} {i : Nat} (hd : (x == ("__debug__" : Str)) = false) (hk : c.env.scope.names.lookup x = some .local) (hn : c.names[i]? = some x) {V0 : V} (hv : m.lookup i = some V0)
    {s : Shared} (R : Rel S0 (c.st m σ) s) {Q : Value → Shared → Prop} {E : Value → Shared → Prop} (k : ∀ v, Rz V0 v → Q v s) : wpAny (model prog w) c.A (loadName c.env x) Q E s := by
  obtain ⟨mm, hns, hm⟩ := frame_ns R
  have := hm i x hn
  rw [hv] at this
  obtain ⟨v, hv', hz⟩ := this.some
  exact wpAny_loadName_local c.kind hk hns hv' (k v hz)

/-- a local name -/
theorem ev_loc {x : Str} {p : Pos} {i : Nat} {V0 : V} (hk : c.env.scope.names.lookup x = some .local) (hd : (x == ("__debug__" : Str)) = false) (hn : c.names[i]? = some x) (hv : m.lookup i = some V0) (h : K V0 σ) :
    Ev prog w S0 c (.Name x p) m σ K :=
  Op.of fun s R Q E k => wpAny_Name (names_loc hd hk hn hv R fun v hz => k v V0 σ s R hz h) hd

theorem cell_at {a : Addr} {v : Option V} {τ : Sto} {s : Shared} (R : Rel S0 τ s) (hm : (a, O.cell v) ∈ τ) : ∃ u, s.heap.IsCell a u ∧ RzO v u := by
  obtain ⟨_, o, ho, u, hd, hz⟩ := R.objs _ hm
  exact ⟨u, ⟨o, ho, hd⟩, hz⟩
theorem mem_st {p : Addr × O} (h : p ∈ σ) : p ∈ c.st m σ := .tail _ (List.mem_append_right _ h)
theorem mem_F {p : Addr × O} (h : p ∈ c.F) : p ∈ c.st m σ := .tail _ (List.mem_append_left _ h)

/-- a name that a comprehension captures -/
theorem ev_cell {x : Str} {p : Pos} {a : Addr} {V0 : V} (hk : c.env.scope.names.lookup x = some .cell ∨ c.env.scope.names.lookup x = some .free) (hd : (x == ("__debug__" : Str)) = false) (hcd : (x == ("__classdict__" : Str)) = false)
    (hc : c.env.cells.lookup x = some a) (hm : (a, O.cell (some V0)) ∈ σ) (h : K V0 σ) : Ev prog w S0 c (.Name x p) m σ K :=
  Op.of fun s R Q E k => by
    obtain ⟨u, hu, hz⟩ := cell_at R (mem_st hm)
    obtain ⟨v, rfl, hz⟩ := hz.some
    refine wpAny_Name ?_ hd
    rcases hk with hk | hk
    · exact wpAny_loadName_cell c.kind hk hc hu (k v V0 σ s R hz h)
    · exact wpAny_loadName_free c.kind hk hc hu (k v V0 σ s R hz h) hcd

/-- a global of the text, or a built-in -/
theorem ev_glob {mg mb : Str → Option Value} {x : Str} {p : Pos} {v : Value} (B : Bs S0 mg mb) (hk : c.env.scope.names.lookup x = some .globalImplicit) (hd : (x == ("__debug__" : Str)) = false) (hv : mg x = some v)
    {V0 : V} (hz : Rz V0 v) (h : K V0 σ) : Ev prog w S0 c (.Name x p) m σ K :=
  Op.of fun s R Q E k => Name_function_global c.kind hk (loadGlobal_global (c.glob ▸ B.g.keeps R.keep) hv (k v _ σ s R hz h)) hd
theorem ev_blt {mg mb : Str → Option Value} {x : Str} {p : Pos} {v : Value} (B : Bs S0 mg mb) (hk : c.env.scope.names.lookup x = some .globalImplicit) (hd : (x == ("__debug__" : Str)) = false) (hn : x ≠ "__name__") (hg : mg x = .none) (hv : bootBuiltins x = some v)
    (h : K (.abs v) σ) : Ev prog w S0 c (.Name x p) m σ K :=
  Op.of fun s R Q E k => Name_function_global c.kind hk (loadGlobal_builtin (c.glob ▸ B.g.keeps R.keep) hg (c.blt ▸ B.b.keeps R.keep) ((B.bb x hn).trans hv) (k v (.abs v) σ s R rfl h)) hd

/- operators -/
theorem ev_bin {l r : Expr} {op : Operator} {p : Pos} (h : Ev prog w S0 c l m σ fun x σ1 => Ev prog w S0 c r m σ1 fun y σ2 => Bin prog w S0 c m σ2 op x y K) : Ev prog w S0 c (.BinOp l op r p) m σ K :=
  Op.of fun s R Q E k => wpAny_BinOp (Op.get h s R _ E fun v x σ1 s1 R1 hx h1 => Op.get h1 s1 R1 _ E fun u y σ2 s2 R2 hy h2 => Op.get (h2 v u hx hy) s2 R2 Q E k)
theorem ev_cmp {l r : Expr} {op : CmpOp} {p : Pos} (h : Ev prog w S0 c l m σ fun x σ1 => Ev prog w S0 c r m σ1 fun y σ2 => Cmp prog w S0 c m σ2 op x y K)
    (hm : behindInMarks op r = false := by with_unfolding_all rfl) : Ev prog w S0 c (.Compare l [op] [r] p) m σ K :=
  Op.of fun s R Q E k => wpAny_Compare1 (Op.get h s R _ E fun v x σ1 s1 R1 hx h1 => Op.get h1 s1 R1 _ E fun u y σ2 s2 R2 hy h2 => Op.get (h2 v u hx hy) s2 R2 Q E k) hm


theorem ev_neg {e : Expr} {p : Pos} (h : Ev prog w S0 c e m σ fun x σ1 => ∃ i, x = .int i ∧ K (.int (-i)) σ1) : Ev prog w S0 c (.UnaryOp .USub e p) m σ K :=
  Op.of fun s R Q E k => by
    rw [arm_eval_UnaryOp]
    refine wpAny_bind (Op.get h s R _ E fun v x σ1 s1 R1 hx ⟨i, e, h1⟩ => wpAny_bind (wpAny_standAt (wpAny_holding ?_)))
    subst e
    obtain ⟨t, rfl⟩ := hx
    exact neg_int (k _ (.int (-i)) σ1 _ (R1.toks _) ⟨_, rfl⟩ h1)

section
variable {a b : Int}
theorem bin_add (h : K (.int (a + b)) σ) : Bin prog w S0 c m σ .Add (.int a) (.int b) K := by
  rintro _ _ ⟨tv, rfl⟩ ⟨tu, rfl⟩; exact Op.tok h fun s Q E k => add_int (k _ _ ⟨_, rfl⟩)
theorem bin_sub (h : K (.int (a - b)) σ) : Bin prog w S0 c m σ .Sub (.int a) (.int b) K := by
  rintro _ _ ⟨tv, rfl⟩ ⟨tu, rfl⟩; exact Op.tok h fun s Q E k => sub_int' (k _ _ ⟨_, rfl⟩)
theorem bin_mul (hm : IntMulOk a b) (h : K (.int (a * b)) σ) : Bin prog w S0 c m σ .Mult (.int a) (.int b) K := by
  rintro _ _ ⟨tv, rfl⟩ ⟨tu, rfl⟩; exact Op.tok h fun s Q E k => PyProof.Rows.mul_int (k _ _ ⟨_, rfl⟩) hm
theorem bin_mod (hb : b ≠ 0) (h : K (.int (a.fmod b)) σ) : Bin prog w S0 c m σ .Mod (.int a) (.int b) K := by
  rintro _ _ ⟨tv, rfl⟩ ⟨tu, rfl⟩; exact Op.tok h fun s Q E k => mod_int' hb (k _ _ ⟨_, rfl⟩)
theorem bin_div (hb : b ≠ 0) (hp : Builtin.divisionGoesByPylong a b = false) (h : K (.int (a.fdiv b)) σ) : Bin prog w S0 c m σ .FloorDiv (.int a) (.int b) K := by
  rintro _ _ ⟨tv, rfl⟩ ⟨tu, rfl⟩; exact Op.tok h fun s Q E k => floordiv_int hb (k _ _ ⟨_, rfl⟩) (.inl hp)
theorem bin_and (h : K (.int (Builtin.bitAnd a b)) σ) : Bin prog w S0 c m σ .BitAnd (.int a) (.int b) K := by
  rintro _ _ ⟨tv, rfl⟩ ⟨tu, rfl⟩; exact Op.tok h fun s Q E k => and_int (k _ _ ⟨_, rfl⟩)
theorem bin_or (h : K (.int (Builtin.bitOr a b)) σ) : Bin prog w S0 c m σ .BitOr (.int a) (.int b) K := by
  rintro _ _ ⟨tv, rfl⟩ ⟨tu, rfl⟩; exact Op.tok h fun s Q E k => or_int (k _ _ ⟨_, rfl⟩)
theorem bin_shr (hb : 0 ≤ b) (h : K (.int (a.fdiv (2 ^ b.toNat))) σ) : Bin prog w S0 c m σ .RShift (.int a) (.int b) K := by
  rintro _ _ ⟨tv, rfl⟩ ⟨tu, rfl⟩; exact Op.tok h fun s Q E k => rshift_int hb (k _ _ ⟨_, rfl⟩)
theorem bin_shl (hb : 0 ≤ b) (hb2 : b ≤ 1000000) (ha : a.natAbs < 2 ^ 64) (h : K (.int (a * 2 ^ b.toNat)) σ) : Bin prog w S0 c m σ .LShift (.int a) (.int b) K := by
  rintro _ _ ⟨tv, rfl⟩ ⟨tu, rfl⟩; exact Op.tok h fun s Q E k => lshift_int_small hb hb2 ha (k _ _ ⟨_, rfl⟩)
theorem ibin_add (h : K (.int (a + b)) σ) : IBin prog w S0 c m σ .Add (.int a) (.int b) K := by
  rintro _ _ ⟨tv, rfl⟩ ⟨tu, rfl⟩; exact Op.tok h fun s Q E k => wpAny_iadd_int (k _ _ ⟨_, rfl⟩)
theorem ibin_sub (h : K (.int (a - b)) σ) : IBin prog w S0 c m σ .Sub (.int a) (.int b) K := by
  rintro _ _ ⟨tv, rfl⟩ ⟨tu, rfl⟩; exact Op.tok h fun s Q E k => PySem.P.isub_int (k _ _ ⟨_, rfl⟩)
theorem ibin_or (h : K (.int (Builtin.bitOr a b)) σ) : IBin prog w S0 c m σ .BitOr (.int a) (.int b) K := by
  rintro _ _ ⟨tv, rfl⟩ ⟨tu, rfl⟩; exact Op.tok h fun s Q E k => ior_int (k _ _ ⟨_, rfl⟩)
theorem ibin_shl (hb : 0 ≤ b) (hb2 : b ≤ 1000000) (ha : a.natAbs < 2 ^ 64) (h : K (.int (a * 2 ^ b.toNat)) σ) : IBin prog w S0 c m σ .LShift (.int a) (.int b) K := by
  rintro _ _ ⟨tv, rfl⟩ ⟨tu, rfl⟩; exact Op.tok h fun s Q E k => ilshift_int_small hb hb2 ha (k _ _ ⟨_, rfl⟩)
theorem cmp_eq (h : K (.bool (a == b)) σ) : Cmp prog w S0 c m σ .Eq (.int a) (.int b) K := by
  rintro _ _ ⟨tv, rfl⟩ ⟨tu, rfl⟩; exact Op.tok h fun s Q E k => PyProof.Rows.eq_int (k _ _ rfl)
theorem cmp_ne (h : K (.bool (a != b)) σ) : Cmp prog w S0 c m σ .NotEq (.int a) (.int b) K := by
  rintro _ _ ⟨tv, rfl⟩ ⟨tu, rfl⟩; exact Op.tok h fun s Q E k => PySem.P.ne_int (k _ _ rfl)
theorem cmp_lt (h : K (.bool (decide (a < b))) σ) : Cmp prog w S0 c m σ .Lt (.int a) (.int b) K := by
  rintro _ _ ⟨tv, rfl⟩ ⟨tu, rfl⟩; exact Op.tok h fun s Q E k => PySem.P.lt_int (k _ _ rfl)
theorem cmp_le (h : K (.bool (decide (a ≤ b))) σ) : Cmp prog w S0 c m σ .LtE (.int a) (.int b) K := by
  rintro _ _ ⟨tv, rfl⟩ ⟨tu, rfl⟩; exact Op.tok h fun s Q E k => PySem.P.le_int (k _ _ rfl)
theorem cmp_gt (h : K (.bool (decide (a > b))) σ) : Cmp prog w S0 c m σ .Gt (.int a) (.int b) K := by
  rintro _ _ ⟨tv, rfl⟩ ⟨tu, rfl⟩; exact Op.tok h fun s Q E k => PySem.P.gt_int (k _ _ rfl)
end
section
variable {x y : Str}
theorem bin_cat (hs : x.length + y.length ≤ sizeLine) (h : K (.str (x ++ y)) σ) : Bin prog w S0 c m σ .Add (.str x) (.str y) K := by
  rintro _ _ ⟨tv, rfl⟩ ⟨tu, rfl⟩; exact Op.tok h fun s Q E k => PyProof.Rows.add_str (fun t tk => k _ tk ⟨_, rfl⟩) hs
theorem cmp_seq (h : K (.bool (x == y)) σ) : Cmp prog w S0 c m σ .Eq (.str x) (.str y) K := by
  rintro _ _ ⟨tv, rfl⟩ ⟨tu, rfl⟩; exact Op.tok h fun s Q E k => PyProof.Rows.eq_str (k _ _ rfl)
theorem cmp_sne (h : K (.bool (x != y)) σ) : Cmp prog w S0 c m σ .NotEq (.str x) (.str y) K := by
  rintro _ _ ⟨tv, rfl⟩ ⟨tu, rfl⟩; exact Op.tok h fun s Q E k => PyProof.Rows.ne_str (k _ _ rfl)
end
end
end Mine
end

section
set_option maxRecDepth 10000
namespace Mine
section
variable {prog : Program} {w : World} {S0 : Shared} {c : Cx} {m : Ms} {σ : Sto}

/- tests -/
theorem Et.of {e : Expr} {K : Bool → Sto → Prop} (h : ∀ s, Rel S0 (c.st m σ) s → ∀ Q E, (∀ b σ' s', Rel S0 (c.st m σ') s' → K b σ' → Q b s') → wpAny (model prog w) c.A (isTrue e c.env (eval e c.env)) Q E s) : Et prog w S0 c e m σ K :=
  fun s R Q E k => h s R Q E fun b σ' s' R' hk => k b (c.st m σ') s' R' ⟨σ', Imp.rfl, hk⟩
theorem Et.get {e : Expr} {K : Bool → Sto → Prop} (h : Et prog w S0 c e m σ K) : ∀ s, Rel S0 (c.st m σ) s → ∀ Q E, (∀ b σ' s', Rel S0 (c.st m σ') s' → K b σ' → Q b s') → wpAny (model prog w) c.A (isTrue e c.env (eval e c.env)) Q E s :=
  fun s R Q E k => h s R Q E fun b τ s' R' ⟨σ', hi, hk⟩ => k b σ' s' (hi s' R') hk
theorem Tru.get {x : V} {K : Bool → Sto → Prop} (h : Tru prog w S0 c m σ x K) : ∀ v, Rz x v → ∀ s, Rel S0 (c.st m σ) s → ∀ Q E, (∀ b σ' s', Rel S0 (c.st m σ') s' → K b σ' → Q b s') → wpAny (model prog w) c.A (truthy v) Q E s :=
  fun v hv s R Q E k => h v hv s R Q E fun b τ s' R' ⟨σ', hi, hk⟩ => k b σ' s' (hi s' R') hk
theorem Tru.of {x : V} {K : Bool → Sto → Prop} (h : ∀ v, Rz x v → ∀ s, Rel S0 (c.st m σ) s → ∀ Q E, (∀ b σ' s', Rel S0 (c.st m σ') s' → K b σ' → Q b s') → wpAny (model prog w) c.A (truthy v) Q E s) : Tru prog w S0 c m σ x K :=
  fun v hv s R Q E k => h v hv s R Q E fun b σ' s' R' hk => k b (c.st m σ') s' R' ⟨σ', Imp.rfl, hk⟩

theorem tru_bool {b : Bool} {K : Bool → Sto → Prop} (h : K b σ) : Tru prog w S0 c m σ (.bool b) K :=
  Tru.of fun v hv s R Q E k => by obtain rfl : v = .bool b := hv; exact wpAny_truthy_bool (k b σ s R h)
theorem tru_none {K : Bool → Sto → Prop} (h : K false σ) : Tru prog w S0 c m σ .none K :=
  Tru.of fun v hv s R Q E k => by obtain rfl : v = .none := hv; exact truthy_none (k false σ s R h)
theorem tru_int {i : Int} {K : Bool → Sto → Prop} (h : K (i != 0) σ) : Tru prog w S0 c m σ (.int i) K :=
  Tru.of fun v hv s R Q E k => by obtain ⟨t, rfl⟩ := hv; exact PySem.P.truthy_int (k _ σ s R h)
theorem tru_str {x : Str} {K : Bool → Sto → Prop} (hfit : ¬ (x.length : Int) ≥ 2 ^ 63) (h : K ((x.length : Int) != 0) σ) : Tru prog w S0 c m σ (.str x) K :=
  Tru.of fun v hv s R Q E k => by obtain ⟨t, rfl⟩ := hv; exact PySem.P.truthy_str hfit (k _ σ _ (R.toks _) h)

theorem et_cmp {l r : Expr} {op : CmpOp} {p : Pos} {K : Bool → Sto → Prop}
    (h : Ev prog w S0 c l m σ fun x σ1 => Ev prog w S0 c r m σ1 fun y σ2 => Cmp prog w S0 c m σ2 op x y fun z σ3 => Tru prog w S0 c m σ3 z K)
    (hm : behindInMarks op r = false := by with_unfolding_all rfl) : Et prog w S0 c (.Compare l [op] [r] p) m σ K :=
  Et.of fun s R Q E k => wpAny_isTrue_Compare1 (Op.get h s R _ E fun v x σ1 s1 R1 hx h1 => Op.get h1 s1 R1 _ E fun u y σ2 s2 R2 hy h2 => Op.get (h2 v u hx hy) s2 R2 _ E
    fun z x' σ3 s3 R3 hz h3 => h3.get z hz s3 R3 Q E k) hm
theorem et_plain {e : Expr} {K : Bool → Sto → Prop} (h : Ev prog w S0 c e m σ fun x σ1 => Tru prog w S0 c m σ1 x K)
    (he : ∀ whole, isTrue e c.env whole = (do let v ← whole; standAt e.pos; holding [v] (truthy v)) := by intro _; rfl) : Et prog w S0 c e m σ K :=
  Et.of fun s R Q E k => isTrue_plain (Op.get h s R _ E fun v x σ1 s1 R1 hx h1 => h1.get v hx s1 R1 Q E k) (he _)
theorem et_not {e : Expr} {p : Pos} {K : Bool → Sto → Prop} (h : Et prog w S0 c e m σ fun b σ1 => K (!b) σ1) : Et prog w S0 c (.UnaryOp .Not e p) m σ K :=
  Et.of fun s R Q E k => isTrue_not (Et.get h s R _ E fun b σ1 s1 R1 h1 => k _ σ1 s1 R1 h1)
theorem et_if {t a b : Expr} {p : Pos} {K : Bool → Sto → Prop}
    (h : Et prog w S0 c t m σ fun x σ1 => (x = true → Et prog w S0 c a m σ1 K) ∧ (x = false → Et prog w S0 c b m σ1 K)) : Et prog w S0 c (.IfExp t a b p) m σ K :=
  Et.of fun s R Q E k => isTrue_IfExp (Et.get h s R _ E fun x σ1 s1 R1 h1 => by
    cases x
    · exact Et.get (h1.2 rfl) s1 R1 Q E k
    · exact Et.get (h1.1 rfl) s1 R1 Q E k)
theorem et_and_nil {p : Pos} {K : Bool → Sto → Prop} (h : K true σ) : Et prog w S0 c (.BoolOp .And [] p) m σ K :=
  Et.of fun s R Q E k => isTrue_and_nil (k _ σ s R h)
theorem et_or_nil {p : Pos} {K : Bool → Sto → Prop} (h : K false σ) : Et prog w S0 c (.BoolOp .Or [] p) m σ K :=
  Et.of fun s R Q E k => isTrue_or_nil (k _ σ s R h)
theorem et_and {x : Expr} {rest : List Expr} {p : Pos} {K : Bool → Sto → Prop}
    (h : Et prog w S0 c x m σ fun b σ1 => (b = true → Et prog w S0 c (.BoolOp .And rest p) m σ1 K) ∧ (b = false → K false σ1)) : Et prog w S0 c (.BoolOp .And (x :: rest) p) m σ K :=
  Et.of fun s R Q E k => isTrue_and (Et.get h s R _ E fun b σ1 s1 R1 h1 => by
    cases b
    · exact k _ σ1 s1 R1 (h1.2 rfl)
    · exact Et.get (h1.1 rfl) s1 R1 Q E k)
theorem et_or {x : Expr} {rest : List Expr} {p : Pos} {K : Bool → Sto → Prop}
    (h : Et prog w S0 c x m σ fun b σ1 => (b = false → Et prog w S0 c (.BoolOp .Or rest p) m σ1 K) ∧ (b = true → K true σ1)) : Et prog w S0 c (.BoolOp .Or (x :: rest) p) m σ K :=
  Et.of fun s R Q E k => isTrue_or (Et.get h s R _ E fun b σ1 s1 R1 h1 => by
    cases b
    · exact Et.get (h1.1 rfl) s1 R1 Q E k
    · exact k _ σ1 s1 R1 (h1.2 rfl))

/- values of tests -/
theorem ev_if {t a b : Expr} {p : Pos} {K : V → Sto → Prop}
    (h : Et prog w S0 c t m σ fun x σ1 => (x = true → Ev prog w S0 c a m σ1 K) ∧ (x = false → Ev prog w S0 c b m σ1 K)) : Ev prog w S0 c (.IfExp t a b p) m σ K :=
  Op.of fun s R Q E k => by
    rw [arm_eval_IfExp]
    refine wpAny_bind (Et.get h s R _ E fun x σ1 s1 R1 h1 => ?_)
    cases x
    · exact Op.get (h1.2 rfl) s1 R1 Q E k
    · exact Op.get (h1.1 rfl) s1 R1 Q E k
theorem ev_bool1 {op : PySem.BoolOp} {x : Expr} {p : Pos} {K : V → Sto → Prop} (h : Ev prog w S0 c x m σ K) : Ev prog w S0 c (.BoolOp op [x] p) m σ K :=
  Op.of fun s R Q E k => by rw [arm_eval_BoolOp]; exact Op.get h s R Q E k
theorem ev_and {x y : Expr} {rest : List Expr} {p : Pos} {K : V → Sto → Prop}
    (h : Ev prog w S0 c x m σ fun v σ1 => Tru prog w S0 c m σ1 v fun b σ2 => (b = false → K v σ2) ∧ (b = true → Ev prog w S0 c (.BoolOp .And (y :: rest) p) m σ2 K)) :
    Ev prog w S0 c (.BoolOp .And (x :: y :: rest) p) m σ K :=
  Op.of fun s R Q E k => by
    rw [arm_eval_BoolOp]
    show wpAny _ _ (do let v ← eval x c.env; standAt p; let t ← holding [v] (truthy v); match BoolOp.And, t with | .And, false | .Or, true => pure v | _, _ => boolOp p .And (evalEach (y :: rest) c.env)) _ _ _
    refine wpAny_bind (Op.get h s R _ E fun v x σ1 s1 R1 hx h1 => wpAny_bind (wpAny_standAt (wpAny_bind (wpAny_holding (h1.get v hx s1 R1 _ E fun b σ2 s2 R2 h2 => ?_)))))
    cases b
    · exact wpAny_pure (k v x σ2 s2 R2 hx (h2.1 rfl))
    · have := Op.get (h2.2 rfl) s2 R2 Q E k
      rw [arm_eval_BoolOp] at this
      exact this
theorem ev_or {x y : Expr} {rest : List Expr} {p : Pos} {K : V → Sto → Prop}
    (h : Ev prog w S0 c x m σ fun v σ1 => Tru prog w S0 c m σ1 v fun b σ2 => (b = true → K v σ2) ∧ (b = false → Ev prog w S0 c (.BoolOp .Or (y :: rest) p) m σ2 K)) :
    Ev prog w S0 c (.BoolOp .Or (x :: y :: rest) p) m σ K :=
  Op.of fun s R Q E k => by
    rw [arm_eval_BoolOp]
    show wpAny _ _ (do let v ← eval x c.env; standAt p; let t ← holding [v] (truthy v); match BoolOp.Or, t with | .And, false | .Or, true => pure v | _, _ => boolOp p .Or (evalEach (y :: rest) c.env)) _ _ _
    refine wpAny_bind (Op.get h s R _ E fun v x σ1 s1 R1 hx h1 => wpAny_bind (wpAny_standAt (wpAny_bind (wpAny_holding (h1.get v hx s1 R1 _ E fun b σ2 s2 R2 h2 => ?_)))))
    cases b
    · have := Op.get (h2.2 rfl) s2 R2 Q E k
      rw [arm_eval_BoolOp] at this
      exact this
    · exact wpAny_pure (k v x σ2 s2 R2 hx (h2.1 rfl))

/- stores -/
theorem Sto1.of {n : Str} {x : V} {K : Ms → Sto → Prop} (h : ∀ v, Rz x v → ∀ s, Rel S0 (c.st m σ) s → ∀ Q E, (∀ m' σ' s', Rel S0 (c.st m' σ') s' → K m' σ' → Q () s') → wpAny (model prog w) c.A (storeName c.env n v) Q E s) : Sto1 prog w S0 c m σ n x K :=
  fun v hv s R Q E k => h v hv s R Q E fun m' σ' s' R' hk => k () (c.st m' σ') s' R' ⟨m', σ', Imp.rfl, hk⟩
theorem Sto1.get {n : Str} {x : V} {K : Ms → Sto → Prop} (h : Sto1 prog w S0 c m σ n x K) : ∀ v, Rz x v → ∀ s, Rel S0 (c.st m σ) s → ∀ Q E, (∀ m' σ' s', Rel S0 (c.st m' σ') s' → K m' σ' → Q () s') → wpAny (model prog w) c.A (storeName c.env n v) Q E s :=
  fun v hv s R Q E k => h v hv s R Q E fun _ τ s' R' ⟨m', σ', hi, hk⟩ => k m' σ' s' (hi s' R') hk

theorem nodup_get {l : List Str} (h : l.Nodup) {i j : Nat} {x : Str} (hi : l[i]? = some x) (hj : l[j]? = some x) : i = j := by
  obtain ⟨hi', ei⟩ := List.getElem?_eq_some_iff.mp hi
  obtain ⟨hj', ej⟩ := List.getElem?_eq_some_iff.mp hj
  exact (List.getElem_inj h).mp (ei.trans ej.symm)

/-- a local name is stored -/
theorem sto_loc {n : Str} {x : V} {i : Nat} {K : Ms → Sto → Prop} (hk : c.env.scope.names.lookup n = some .local) (hn : c.names[i]? = some n) (h : K ((i, x) :: m) σ) : Sto1 prog w S0 c m σ n x K :=
  Sto1.of fun v hv s R Q E k => by
    obtain ⟨mm, hns, hm⟩ := frame_ns R
    refine wpAny_storeName_local hk hns (fun h' hn' hs => k _ σ _ ?_ h) (by rw [c.kind]; rfl)
    obtain ⟨o, es, ep, ho, hd, hsk, hf⟩ := hn'
    refine Rel.upd (l1 := []) R hs ho ?_ _
    refine ⟨es, ep, hd, hsk, fun j y hj => ?_⟩
    rw [hf y]
    show RzO _ (if y = n then some v else mm y)
    by_cases hy : y = n
    · subst hy
      obtain rfl := nodup_get c.nd hn hj
      simp only [if_true, List.lookup_cons, beq_self_eq_true]
      exact hv
    · have hij : j ≠ i := by rintro rfl; rw [hn] at hj; exact hy (Option.some.inj hj).symm
      rw [if_neg hy, List.lookup_cons, beq_eq_false_iff_ne.mpr hij]
      exact hm j y hj

/-- a captured name is stored -/
theorem sto_cell {n : Str} {x : V} {a : Addr} {v0 : Option V} {σ' : Sto} {K : Ms → Sto → Prop} (hk : c.env.scope.names.lookup n = some .cell) (hc : c.env.cells.lookup n = some a) (hu : Upd a (.cell v0) (.cell (some x)) σ σ')
    (h : K m σ') : Sto1 prog w S0 c m σ n x K :=
  Sto1.of fun v hv s R Q E k => by
    obtain ⟨u, hcell, _⟩ := cell_at R (mem_st hu.mem)
    refine wpAny_storeName_cell c.kind hk hc hcell fun h' hv' hs => ?_
    obtain ⟨o, ho, hd⟩ := hv'
    have U : Upd a (.cell v0) (.cell (some x)) (c.st m σ) (c.st m σ') := .tail (hu.app _)
    exact k m σ' _ (Rel.put U R hs ho ⟨_, hd, hv⟩ s.toks) h

/- statements -/
theorem Ex.of {ss : List Stmt} {K : Fl → Ms → Sto → Prop} (h : ∀ s, Rel S0 (c.st m σ) s → ∀ Q E, (∀ f F m' σ' s', Rel S0 (c.st m' σ') s' → RzF F f → K F m' σ' → Q f s') → wpAny (model prog w) c.A (execs ss c.env) Q E s) : Ex prog w S0 c ss m σ K :=
  fun s R Q E k => h s R Q E fun f F m' σ' s' R' hf hk => k f (c.st m' σ') s' R' ⟨F, m', σ', hf, Imp.rfl, hk⟩
theorem Ex.get {ss : List Stmt} {K : Fl → Ms → Sto → Prop} (h : Ex prog w S0 c ss m σ K) : ∀ s, Rel S0 (c.st m σ) s → ∀ Q E, (∀ f F m' σ' s', Rel S0 (c.st m' σ') s' → RzF F f → K F m' σ' → Q f s') → wpAny (model prog w) c.A (execs ss c.env) Q E s :=
  fun s R Q E k => h s R Q E fun f τ s' R' ⟨F, m', σ', hf, hi, hk⟩ => k f F m' σ' s' (hi s' R') hf hk
theorem Ex1.of {st : Stmt} {K : Fl → Ms → Sto → Prop} (h : ∀ s, Rel S0 (c.st m σ) s → ∀ Q E, (∀ f F m' σ' s', Rel S0 (c.st m' σ') s' → RzF F f → K F m' σ' → Q f s') → wpAny (model prog w) c.A (exec st c.env) Q E s) : Ex1 prog w S0 c st m σ K :=
  fun s R Q E k => h s R Q E fun f F m' σ' s' R' hf hk => k f (c.st m' σ') s' R' ⟨F, m', σ', hf, Imp.rfl, hk⟩
theorem Ex1.get {st : Stmt} {K : Fl → Ms → Sto → Prop} (h : Ex1 prog w S0 c st m σ K) : ∀ s, Rel S0 (c.st m σ) s → ∀ Q E, (∀ f F m' σ' s', Rel S0 (c.st m' σ') s' → RzF F f → K F m' σ' → Q f s') → wpAny (model prog w) c.A (exec st c.env) Q E s :=
  fun s R Q E k => h s R Q E fun f τ s' R' ⟨F, m', σ', hf, hi, hk⟩ => k f F m' σ' s' (hi s' R') hf hk
theorem Ex.mono {ss : List Stmt} {K K' : Fl → Ms → Sto → Prop} (h : Ex prog w S0 c ss m σ K) (k : ∀ F m' σ', K F m' σ' → K' F m' σ') : Ex prog w S0 c ss m σ K' :=
  Tr.mono h fun f τ ⟨F, m', σ', a, b, d⟩ => ⟨F, m', σ', a, b, k _ _ _ d⟩

/-- what follows a statement -/
def Then (prog : Program) (w : World) (S0 : Shared) (c : Cx) (rest : List Stmt) (K : Fl → Ms → Sto → Prop) : Fl → Ms → Sto → Prop
  | .next, m, σ => Ex prog w S0 c rest m σ K
  | F, m, σ => K F m σ

theorem ex_nil {K : Fl → Ms → Sto → Prop} (h : K .next m σ) : Ex prog w S0 c [] m σ K :=
  Ex.of fun s R Q E k => wpAny_execs_nil (k .next .next m σ s R rfl h)
theorem ex_cons {st : Stmt} {rest : List Stmt} {K : Fl → Ms → Sto → Prop} (h : Ex1 prog w S0 c st m σ (Then prog w S0 c rest K)) : Ex prog w S0 c (st :: rest) m σ K :=
  Ex.of fun s R Q E k => wpAny_execs_cons (Ex1.get h s R _ E fun f F m' σ' s' R' hf hk => by
    cases F with
    | next => obtain rfl : f = .next := hf; exact Ex.get hk s' R' Q E k
    | brk => obtain rfl : f = .brk := hf; exact k _ .brk m' σ' s' R' rfl hk
    | cont => obtain rfl : f = .cont := hf; exact k _ .cont m' σ' s' R' rfl hk
    | ret x => obtain ⟨v, rfl, hv⟩ := hf; exact k _ (.ret x) m' σ' s' R' ⟨v, rfl, hv⟩ hk)

/-- n = e -/
theorem ex_assign {n : Str} {p pos : Pos} {e : Expr} {rest : List Stmt} {K : Fl → Ms → Sto → Prop}
    (h : Ev prog w S0 c e m σ fun x σ1 => Sto1 prog w S0 c m σ1 n x fun m' σ2 => Ex prog w S0 c rest m' σ2 K)
    (hs : swapsWith e (some (.Name n p)) pos.line c.env = pure false := by rfl) : Ex prog w S0 c (.Assign [.Name n p] e pos :: rest) m σ K :=
  Ex.of fun s R Q E k => wpAny_execs_cons (wpAny_Assign_Name (Op.get h s R _ E fun v x σ1 s1 R1 hx h1 => h1.get v hx s1 R1 _ E fun m' σ2 s2 R2 h2 => Ex.get h2 s2 R2 Q E k) hs)
/-- a = b = e -/
theorem ex_assign2 {n1 n2 : Str} {p1 p2 pos : Pos} {e : Expr} {rest : List Stmt} {K : Fl → Ms → Sto → Prop}
    (h : Ev prog w S0 c e m σ fun x σ1 => Sto1 prog w S0 c m σ1 n1 x fun m1 σ2 => Sto1 prog w S0 c m1 σ2 n2 x fun m2 σ3 => Ex prog w S0 c rest m2 σ3 K) :
    Ex prog w S0 c (.Assign [.Name n1 p1, .Name n2 p2] e pos :: rest) m σ K :=
  Ex.of fun s R Q E k => wpAny_execs_cons (wpAny_Assign_two (Op.get h s R _ E fun v x σ1 s1 R1 hx h1 => wpAny_assign_Name (h1.get v hx s1 R1 _ E fun m' σ2 s2 R2 h2 =>
    wpAny_assign_Name (h2.get v hx s2 R2 _ E fun m2 σ3 s3 R3 h3 => Ex.get h3 s3 R3 Q E k))))
theorem ld_loc {x : Str} {i : Nat} {V0 : V} {K : V → Sto → Prop} (hk : c.env.scope.names.lookup x = some .local) (hd : (x == ("__debug__" : Str)) = false) (hn : c.names[i]? = some x) (hv : m.lookup i = some V0) (h : K V0 σ) :
    Op prog w S0 c m σ (loadName c.env x) K := Op.of fun s R Q E k => names_loc hd hk hn hv R fun v hz => k v V0 σ s R hz h
theorem ld_cell {x : Str} {a : Addr} {V0 : V} {K : V → Sto → Prop} (hk : c.env.scope.names.lookup x = some .cell) (hc : c.env.cells.lookup x = some a) (hm : (a, O.cell (some V0)) ∈ σ) (h : K V0 σ) :
    Op prog w S0 c m σ (loadName c.env x) K := Op.of fun s R Q E k => by
    obtain ⟨u, hu, hz⟩ := cell_at R (mem_st hm)
    obtain ⟨v, rfl, hz⟩ := hz.some
    exact wpAny_loadName_cell c.kind hk hc hu (k v V0 σ s R hz h)
theorem ex_aug {n : Str} {p pos : Pos} {op : Operator} {e : Expr} {rest : List Stmt} {K : Fl → Ms → Sto → Prop}
    (h : Op prog w S0 c m σ (loadName c.env n) fun x σ1 => Ev prog w S0 c e m σ1 fun y σ2 => IBin prog w S0 c m σ2 op x y fun z σ3 => Sto1 prog w S0 c m σ3 n z fun m' σ4 => Ex prog w S0 c rest m' σ4 K) :
    Ex prog w S0 c (.AugAssign (.Name n p) op e pos :: rest) m σ K :=
  Ex.of fun s R Q E k => wpAny_execs_cons (wpAny_AugAssign_Name (Op.get h s R _ E
      fun v x σ1 s1 R1 hx h1 => Op.get h1 s1 R1 _ E fun u y σ2 s2 R2 hy h2 => Op.get (h2 v u hx hy) s2 R2 _ E fun r z σ3 s3 R3 hz h3 => h3.get r hz s3 R3 _ E fun m' σ4 s4 R4 h4 => Ex.get h4 s4 R4 Q E k))
theorem ex_expr {e : Expr} {pos : Pos} {rest : List Stmt} {K : Fl → Ms → Sto → Prop} (h : Ev prog w S0 c e m σ fun x σ1 => Ex prog w S0 c rest m σ1 K)
    (hi : interactive c.env = false := by rfl) (hs : swapsWith e none pos.line c.env = pure false := by rfl) : Ex prog w S0 c (.Expr e pos :: rest) m σ K :=
  Ex.of fun s R Q E k => wpAny_execs_cons (wpAny_Expr_any (Op.get h s R _ E fun v x σ1 s1 R1 hx h1 => Ex.get h1 s1 R1 Q E k) hi hs)
theorem ex_ret {e : Expr} {pos : Pos} {rest : List Stmt} {K : Fl → Ms → Sto → Prop} (h : Ev prog w S0 c e m σ fun x σ1 => K (.ret x) m σ1) : Ex prog w S0 c (.Return (some e) pos :: rest) m σ K :=
  Ex.of fun s R Q E k => wpAny_execs_cons (wpAny_Return_some (Op.get h s R _ E fun v x σ1 s1 R1 hx h1 => k _ (.ret x) m σ1 s1 R1 ⟨v, rfl, hx⟩ h1))
theorem ex_brk {pos : Pos} {rest : List Stmt} {K : Fl → Ms → Sto → Prop} (h : K .brk m σ) : Ex prog w S0 c (.Break pos :: rest) m σ K :=
  Ex.of fun s R Q E k => wpAny_execs_cons (wpAny_Break (k _ .brk m σ s R rfl h))
theorem ex_if {t : Expr} {a b : List Stmt} {pos : Pos} {rest : List Stmt} {K : Fl → Ms → Sto → Prop}
    (h : Et prog w S0 c t m σ fun x σ1 => (x = true → Ex prog w S0 c a m σ1 (Then prog w S0 c rest K)) ∧ (x = false → Ex prog w S0 c b m σ1 (Then prog w S0 c rest K))) : Ex prog w S0 c (.If t a b pos :: rest) m σ K := by
  refine ex_cons (Ex1.of fun s R Q E k => wpAny_If (Et.get h s R _ E fun x σ1 s1 R1 h1 => ?_))
  cases x
  · exact Ex.get (h1.2 rfl) s1 R1 Q E k
  · exact Ex.get (h1.1 rfl) s1 R1 Q E k
/-- a loop by an invariant and a measure -/
theorem ex_while {t : Expr} {body : List Stmt} {pos : Pos} {rest : List Stmt} {K : Fl → Ms → Sto → Prop} (I : Nat → Ms → Sto → Prop) (n : Nat) (h0 : I n m σ)
    (turn : ∀ n m σ, I n m σ → Et prog w S0 c t m σ fun x σ1 =>
      (x = true → Ex prog w S0 c body m σ1 fun F m' σ' => match F with
        | .next | .cont => ∃ k, k < n ∧ I k m' σ'
        | .brk => Ex prog w S0 c rest m' σ' K
        | .ret v => K (.ret v) m' σ') ∧
      (x = false → Ex prog w S0 c rest m σ1 K)) : Ex prog w S0 c (.While t body [] pos :: rest) m σ K := by
  refine ex_cons (Ex1.of fun s R Q E k => wpAny_While ?_)
  refine codeAny_whileLoop (fun n s => ∃ m σ, Rel S0 (c.st m σ) s ∧ I n m σ) ?_ n ⟨m, σ, R, h0⟩
  rintro n s ⟨m, σ, R, hI⟩
  refine Et.get (turn n m σ hI) s R _ _ fun b σ1 s1 R1 h1 => ?_
  cases b
  · show wpAny _ _ (execs [] _) _ _ _
    refine wpAny_execs_nil ?_
    exact k .next .next m σ1 s1 R1 rfl (h1.2 rfl)
  · show wpAny _ _ (execs body _) _ _ _
    refine Ex.get (h1.1 rfl) s1 R1 _ _ fun f F m' σ' s' R' hf hk => ?_
    cases F with
    | next => obtain rfl : f = .next := hf; obtain ⟨j, hj, hi⟩ := hk; exact ⟨j, hj, m', σ', R', hi⟩
    | cont => obtain rfl : f = .cont := hf; obtain ⟨j, hj, hi⟩ := hk; exact ⟨j, hj, m', σ', R', hi⟩
    | brk => obtain rfl : f = .brk := hf; exact k .next .next m' σ' s' R' rfl hk
    | ret x => obtain ⟨v, rfl, hv⟩ := hf; exact k _ (.ret x) m' σ' s' R' ⟨v, rfl, hv⟩ hk
end
end Mine
end

section
open PySem.Builtin PySem.Builtin.Str
set_option maxRecDepth 10000
namespace Mine
section
variable {prog : Program} {w : World} {S0 : Shared} {c : Cx} {m : Ms} {σ : Sto} {K : V → Sto → Prop}

/- lists in the store -/
theorem list_at {a : Addr} {xs : List V} {τ : Sto} {s : Shared} (R : Rel S0 τ s) (hm : (a, O.list xs) ∈ τ) : ∃ vs n, IsL s.heap a vs.toArray n ∧ RzL xs vs := by
  obtain ⟨_, o, ho, vs, n, rfl, hz⟩ := R.objs _ hm
  exact ⟨vs, n, ho, hz⟩
theorem tuple_at {a : Addr} {xs : List V} {τ : Sto} {s : Shared} (R : Rel S0 τ s) (hm : (a, O.tuple xs) ∈ τ) : ∃ vs n, s.heap.get? a = some ⟨.type "tuple", .none, .seq vs.toArray n, #[]⟩ ∧ RzL xs vs := by
  obtain ⟨_, o, ho, vs, n, rfl, hz⟩ := R.objs _ hm
  exact ⟨vs, n, ho, hz⟩

theorem st_new {a : Addr} {x : O} : Imp S0 ((a, x) :: c.st m σ) (c.st m ((a, x) :: σ)) := by
  refine Imp.perm ?_
  unfold Cx.st
  refine (List.Perm.swap ..).trans (.cons _ ?_)
  exact List.perm_middle.symm

/-- a new object -/
theorem Rel.new {s : Shared} (R : Rel S0 (c.st m σ) s) {o : Obj} {x : O} (hx : OR x o) (hf : o.isFreed = false) (t : Nat) : Rel S0 (c.st m ((s.heap.objs.size, x) :: σ)) { s with heap := s.heap.push o, toks := t } :=
  st_new _ (R.alloc hx hf t)

/- displays -/
def Evs (prog : Program) (w : World) (S0 : Shared) (c : Cx) (pos : Pos) (es : List Expr) (m : Ms) (σ : Sto) (K : List V → Sto → Prop) : Prop :=
  Tr prog w S0 c.A (c.st m σ) (spliced (backTo pos (starEach es c.env))) fun vs τ => ∃ xs σ', RzL xs vs ∧ Imp S0 τ (c.st m σ') ∧ K xs σ'
theorem Evs.of {pos : Pos} {es : List Expr} {K : List V → Sto → Prop} (h : ∀ s, Rel S0 (c.st m σ) s → ∀ Q E, (∀ vs xs σ' s', Rel S0 (c.st m σ') s' → RzL xs vs → K xs σ' → Q vs s') → wpAny (model prog w) c.A (spliced (backTo pos (starEach es c.env))) Q E s) : Evs prog w S0 c pos es m σ K :=
  fun s R Q E k => h s R Q E fun vs xs σ' s' R' hz hk => k vs (c.st m σ') s' R' ⟨xs, σ', hz, Imp.rfl, hk⟩
theorem Evs.get {pos : Pos} {es : List Expr} {K : List V → Sto → Prop} (h : Evs prog w S0 c pos es m σ K) : ∀ s, Rel S0 (c.st m σ) s → ∀ Q E, (∀ vs xs σ' s', Rel S0 (c.st m σ') s' → RzL xs vs → K xs σ' → Q vs s') → wpAny (model prog w) c.A (spliced (backTo pos (starEach es c.env))) Q E s :=
  fun s R Q E k => h s R Q E fun vs τ s' R' ⟨xs, σ', hz, hi, hk⟩ => k vs xs σ' s' (hi s' R') hz hk
theorem evs_nil {pos : Pos} {K : List V → Sto → Prop} (h : K [] σ) : Evs prog w S0 c pos [] m σ K :=
  Evs.of fun s R Q E k => spliced_nil (k [] [] σ s R trivial h)
theorem evs_cons {pos : Pos} {e : Expr} {es : List Expr} {K : List V → Sto → Prop} (h : Ev prog w S0 c e m σ fun x σ1 => Evs prog w S0 c pos es m σ1 fun xs σ2 => K (x :: xs) σ2)
    (hs : starEach (e :: es) c.env = (false, eval e c.env) :: starEach es c.env := by rfl) : Evs prog w S0 c pos (e :: es) m σ K :=
  Evs.of fun s R Q E k => by
    rw [hs]
    show wpAny _ _ (spliced ((false, eval e c.env) :: backTo pos (starEach es c.env))) _ _ _
    exact spliced_cons (Op.get h s R _ E fun v x σ1 s1 R1 hx h1 => Evs.get h1 s1 R1 _ E fun vs xs σ2 s2 R2 hxs h2 => k (v :: vs) (x :: xs) σ2 s2 R2 ⟨hx, hxs⟩ h2)

theorem ev_list {es : List Expr} {pos : Pos} (h : Evs prog w S0 c pos es m σ fun xs σ1 => xs.length ≤ sizeLine ∧ ∀ a, K (.ref a) ((a, .list xs) :: σ1)) : Ev prog w S0 c (.List es pos) m σ K :=
  Op.of fun s R Q E k => List_ (Evs.get h s R _ E fun vs xs σ1 s1 R1 hxs h1 =>
    wpAny_newObj_type (k _ (.ref s1.heap.objs.size) _ _ (R1.new (x := .list xs) ⟨vs, 0, rfl, hxs⟩ rfl _) rfl (h1.2 _))
      (by show vs.toArray.size ≤ sizeLine; rw [List.size_toArray, ← hxs.length]; exact h1.1))
theorem ev_tuple {es : List Expr} {n : Nat} {pos : Pos} (h : Evs prog w S0 c pos es m σ fun xs σ1 => xs.length ≤ sizeLine ∧ ∀ a, K (.ref a) ((a, .tuple xs) :: σ1)) : Ev prog w S0 c (.Tuple es n pos) m σ K :=
  Op.of fun s R Q E k => Tuple_ (Evs.get h s R _ E fun vs xs σ1 s1 R1 hxs h1 =>
    wpAny_newObj_type (k _ (.ref s1.heap.objs.size) _ _ (R1.new (x := .tuple xs) ⟨vs, 0, rfl, hxs⟩ rfl _) rfl (h1.2 _))
      (by show vs.toArray.size ≤ sizeLine; rw [List.size_toArray, ← hxs.length]; exact h1.1))

/- list + list -/
theorem bin_lcat {a b : Addr} {xs ys : List V} (ha : (a, O.list xs) ∈ σ) (hb : (b, O.list ys) ∈ σ) (hs : xs.length + ys.length ≤ sizeLine) (h : ∀ d, K (.ref d) ((d, .list (xs ++ ys)) :: σ)) : Bin prog w S0 c m σ .Add (.ref a) (.ref b) K := by
  rintro _ _ rfl rfl
  refine Op.of fun s R Q E k => ?_
  obtain ⟨vs, n, hl, hz⟩ := list_at R (mem_st ha)
  obtain ⟨us, n', hl', hz'⟩ := list_at R (mem_st hb)
  refine PySem.P.add_list hl hl' (k _ (.ref s.heap.objs.size) _ _ (R.new (x := .list (xs ++ ys)) ⟨vs ++ us, 0, by simp, hz.append hz'⟩ rfl s.toks) rfl (h _)) ?_
  rw [List.size_toArray, List.size_toArray, ← hz.length, ← hz'.length]; exact hs

/- subscripts -/
def Sub (prog : Program) (w : World) (S0 : Shared) (c : Cx) (m : Ms) (σ : Sto) (value slice : Expr) (x y : V) (K : V → Sto → Prop) : Prop :=
  ∀ v u, Rz x v → Rz y u → Op prog w S0 c m σ (subscriptTail value slice v u) K
theorem ev_sub {value slice : Expr} {p : Pos} (h : Ev prog w S0 c value m σ fun x σ1 => Ev prog w S0 c slice m σ1 fun y σ2 => Sub prog w S0 c m σ2 value slice x y K) : Ev prog w S0 c (.Subscript value slice p) m σ K :=
  Op.of fun s R Q E k => Subscript_ (Op.get h s R _ E fun v x σ1 s1 R1 hx h1 => Op.get h1 s1 R1 _ E fun u y σ2 s2 R2 hy h2 => Op.get (h2 v u hx hy) s2 R2 Q E k)

/-- which item an index means -/
def ix (n : Nat) (i : Int) : Nat := (if i < 0 then i + n else i).toNat

theorem sub_list {value slice : Expr} {a : Addr} {xs : List V} {i : Int} {x : V} (ha : (a, O.list xs) ∈ σ) (h0 : -(xs.length : Int) ≤ i) (hf : i < 2 ^ 63) (hl0 : xs.length < 2 ^ 63) (hx : xs[ix xs.length i]? = some x) (h : K x σ)
    (hs : ∀ a t, subscripted slice false (.ref a) (.int i t) = operate [.ref a, .int i t] (getItem (.ref a) (.int i t)) := by intro _ _; with_unfolding_all rfl) : Sub prog w S0 c m σ value slice (.ref a) (.int i) K := by
  rintro _ _ rfl ⟨t, rfl⟩
  refine Op.of fun s R Q E k => ?_
  obtain ⟨vs, n, hl, hz⟩ := list_at R (mem_st ha)
  obtain ⟨v, hv, hzv⟩ := hz.get hx
  refine tail_any hl.isList.typeIs slot_list_getitem.lookup ?_ (hs _ _)
  unfold ix at hv
  by_cases hi : i < 0
  · rw [if_pos hi, hz.length] at hv
    exact wpAny_getItem_list_neg hl.isList hi (by rw [List.size_toArray, ← hz.length]; exact h0) (by omega) (by simpa using hv) (k v x σ s R hzv h)
  · rw [if_neg hi] at hv
    exact wpAny_getItem_list hl.isList (by omega) hf (by simpa using hv) (k v x σ s R hzv h)

theorem sub_tuple {value slice : Expr} {a : Addr} {xs : List V} {i : Nat} {x : V} (ha : (a, O.tuple xs) ∈ σ) (hf : (i : Int) < 2 ^ 63) (hx : xs[i]? = some x) (h : K x σ)
    (hs : ∀ a t, subscripted slice false (.ref a) (.int i t) = operate [.ref a, .int i t] (getItem (.ref a) (.int i t)) := by intro _ _; with_unfolding_all rfl) : Sub prog w S0 c m σ value slice (.ref a) (.int i) K := by
  rintro _ _ rfl ⟨t, rfl⟩
  refine Op.of fun s R Q E k => ?_
  obtain ⟨vs, n, hl, hz⟩ := tuple_at R (mem_st ha)
  obtain ⟨v, hv, hzv⟩ := hz.get hx
  have hlt := (List.getElem?_eq_some_iff.mp hv).1
  refine item_tupleT (j := i) ⟨_, hl, rfl, n, rfl⟩ (by omega) hf ?_ hv (k v x σ s R hzv h) (hs _ _)
  rw [seqIndex_of (by omega) (by omega)]; simp

theorem sub_str {value slice : Expr} {x : Str} {i : Int} {cp : Nat} (hr : fitsSsize i = true) (hx : Txt.charAt x i = some cp) (h : K (.str ⟨#[cp]⟩) σ)
    (hs : ∀ u t, subscripted slice false (.str x u) (.int i t) = operate [.str x u, .int i t] (getItem (.str x u) (.int i t)) := by intro _ _; with_unfolding_all rfl) : Sub prog w S0 c m σ value slice (.str x) (.int i) K := by
  rintro _ _ ⟨u, rfl⟩ ⟨t, rfl⟩
  refine Op.tok h fun s Q E k => ?_
  refine tail_any (typeIs_str s x u) F.slot_str_getitem.lookup (SB.getItem hr (by rw [hx]; rfl) (k _ _ ?_)) (hs _ _)
  exact ⟨_, by rw [show Txt.item x i = ⟨#[cp]⟩ by unfold Txt.item; rw [hx]; rfl]⟩

/- slices -/
def Pt (prog : Program) (w : World) (S0 : Shared) (c : Cx) (m : Ms) (σ : Sto) (e : Option Expr) (K : Option Int → Sto → Prop) : Prop :=
  Tr prog w S0 c.A (c.st m σ) (evalPart e c.env) fun v τ => ∃ k σ', IsPart v k ∧ Imp S0 τ (c.st m σ') ∧ K k σ'
theorem Pt.get {e : Option Expr} {K : Option Int → Sto → Prop} (h : Pt prog w S0 c m σ e K) : ∀ s, Rel S0 (c.st m σ) s → ∀ Q E, (∀ v i σ' s', Rel S0 (c.st m σ') s' → IsPart v i → K i σ' → Q v s') → wpAny (model prog w) c.A (evalPart e c.env) Q E s :=
  fun s R Q E k => h s R Q E fun v τ s' R' ⟨i, σ', hz, hi, hk⟩ => k v i σ' s' (hi s' R') hz hk
theorem pt_none {K : Option Int → Sto → Prop} (h : K .none σ) : Pt prog w S0 c m σ .none K :=
  fun s R Q E k => wpAny_pure (k _ _ s R ⟨_, σ, .none, Imp.rfl, h⟩)
theorem pt_some {e : Expr} {K : Option Int → Sto → Prop} (h : Ev prog w S0 c e m σ fun x σ1 => (∃ i, x = .int i ∧ K (some i) σ1) ∨ (x = .none ∧ K .none σ1)) : Pt prog w S0 c m σ (some e) K :=
  fun s R Q E k => Op.get h s R Q E fun v x σ1 s1 R1 hx h1 => by
    rcases h1 with ⟨i, rfl, h1⟩ | ⟨rfl, h1⟩
    · obtain ⟨t, rfl⟩ := hx; exact k _ _ s1 R1 ⟨_, σ1, .int i t, Imp.rfl, h1⟩
    · obtain rfl : v = .none := hx; exact k _ _ s1 R1 ⟨_, σ1, .none, Imp.rfl, h1⟩

def cut {α : Type} (xs : List α) (lo hi : Option Int) : List α := (xs.drop (lo.elim 0 (clipAt xs.length))).take (hi.elim xs.length (clipAt xs.length) - lo.elim 0 (clipAt xs.length))
theorem RzL.drop {xs : List V} {vs : List Value} (h : RzL xs vs) : ∀ n, RzL (xs.drop n) (vs.drop n)
  | 0 => h
  | n + 1 => by
    cases xs with
    | nil => cases vs with | nil => trivial | cons => exact h.elim
    | cons x xs => cases vs with | nil => exact h.elim | cons v vs => exact RzL.drop h.2 n
theorem RzL.take {xs : List V} {vs : List Value} (h : RzL xs vs) : ∀ n, RzL (xs.take n) (vs.take n)
  | 0 => by simp only [List.take_zero]; trivial
  | n + 1 => by
    cases xs with
    | nil => cases vs with | nil => trivial | cons => exact h.elim
    | cons x xs => cases vs with | nil => exact h.elim | cons v vs => exact ⟨h.1, RzL.take h.2 n⟩
theorem RzL.cut {xs : List V} {vs : List Value} (h : RzL xs vs) (lo hi : Option Int) : RzL (cut xs lo hi) (Mine.cut vs lo hi) := by
  unfold Mine.cut; rw [h.length]; exact (h.drop _).take _

theorem slice_pick (vs : List Value) (lo hi : Option Int) : slicePick vs.toArray lo hi .none = (cut vs lo hi).toArray := by
  rw [slicePick_plain]; simp only [List.size_toArray]; rfl

/-- a slice of a list -/
theorem ev_lslice {value : Expr} {lower upper : Option Expr} {p pos : Pos}
    (h : Ev prog w S0 c value m σ fun x σ1 => Pt prog w S0 c m σ1 lower fun lo σ2 => Pt prog w S0 c m σ2 upper fun hi σ3 =>
      ∃ a xs, x = .ref a ∧ (a, O.list xs) ∈ σ3 ∧ xs.length ≤ sizeLine ∧ ∀ d, K (.ref d) ((d, .list (cut xs lo hi)) :: σ3)) : Ev prog w S0 c (.Subscript value (.Slice lower upper .none p) pos) m σ K :=
  Op.of fun s R Q E k => by
    rw [eval_Subscript]
    refine wpAny_bind (Op.get h s R _ E fun v x σ1 s1 R1 hx h1 => wpAny_bind (wpAny_holding (wpAny_Slice (h1.get s1 R1 _ E fun vl lo σ2 s2 R2 hlo h2 => h2.get s2 R2 _ E fun vu hi σ3 s3 R3 hhi h3 => wpAny_pure (wpAny_bind (wpAny_standAt ?_))))))
    obtain ⟨a, xs, rfl, ha, hsz, h4⟩ := h3
    obtain rfl : v = .ref a := hx
    obtain ⟨vs, n, hl, hz⟩ := list_at R3 (mem_st ha)
    show wpAny _ _ (subscriptTail value (.Slice lower upper .none p) (.ref a) (.ref s3.heap.objs.size)) _ _ _
    refine tail_any (hl.push _).isList.typeIs slot_list_getitem.lookup (wpAny_getItem_list_slice (hl.push _).isList (Heap.IsSliceOf.new ..) hlo hhi .none (by simp) ?_ ?_) (by with_unfolding_all rfl)
    · rw [slice_pick]
      have G := (R3.grow (h' := s3.heap.push { cls := .type "slice", data := .fields #[vl, vu, .none] }) (fun b o e => Heap.get?_push_of_some _ e) s3.toks)
      exact k _ (.ref _) _ _ (Rel.new G (x := .list (cut xs lo hi)) ⟨_, 0, rfl, hz.cut lo hi⟩ rfl s3.toks) rfl (h4 _)
    · rw [List.size_toArray, ← hz.length]; exact hsz

theorem part_val {v : Value} {k : Option Int} (h : IsPart v k) : ∃ l, v = partValue l ∧ l.map (·.1) = k := by
  cases h with
  | none => exact ⟨.none, rfl, rfl⟩
  | int i t => exact ⟨some (i, t), rfl, rfl⟩

/-- a slice of a text -/
theorem ev_sslice {value : Expr} {lower upper : Option Expr} {p pos : Pos}
    (h : Ev prog w S0 c value m σ fun x σ1 => Pt prog w S0 c m σ1 lower fun lo σ2 => Pt prog w S0 c m σ2 upper fun hi σ3 =>
      ∃ y : Str, x = .str y ∧ y.length ≤ sizeLine ∧ K (.str (Txt.slice y lo hi)) σ3) : Ev prog w S0 c (.Subscript value (.Slice lower upper .none p) pos) m σ K :=
  Op.of fun s R Q E k => by
    rw [eval_Subscript]
    refine wpAny_bind (Op.get h s R _ E fun v x σ1 s1 R1 hx h1 => wpAny_bind (wpAny_holding (wpAny_Slice (h1.get s1 R1 _ E fun vl lo σ2 s2 R2 hlo h2 => h2.get s2 R2 _ E fun vu hi σ3 s3 R3 hhi h3 => wpAny_pure (wpAny_bind (wpAny_standAt ?_))))))
    obtain ⟨y, rfl, hsz, h4⟩ := h3
    obtain ⟨t, rfl⟩ := hx
    obtain ⟨l, rfl, el⟩ := part_val hlo
    obtain ⟨u, rfl, eu⟩ := part_val hhi
    show wpAny _ _ (subscriptTail value (.Slice lower upper .none p) (.str y t) (.ref s3.heap.objs.size)) _ _ _
    refine tail_any (typeIs_str _ _ _) F.slot_str_getitem.lookup (wpAny_getItem_str_slice (l := l) (u := u) (st := .none) ⟨_, Heap.get?_push_size _ rfl, rfl, rfl⟩ rfl ?_) (by with_unfolding_all rfl)
    have e : sliceMade y t l u .none = (if ((1 : Int) == 1 && (strSliceIndices lo hi 1 y.length).length == y.length) = true then Made.val (.str y t) else Made.str ⟨((strSliceIndices lo hi 1 y.length).filterMap (y.cps[·]?)).toArray⟩) := by
      subst el; subst eu; rfl
    rw [e]
    refine post_val_or_str ⟨Nat.le_trans (Txt.slice_le y lo hi) hsz, fun t' tk => ?_⟩
    have G := (R3.grow (h' := s3.heap.push { cls := .type "slice", data := .fields #[partValue l, partValue u, .none] }) (fun b o e => Heap.get?_push_of_some _ e) tk)
    exact k _ (.str (Txt.slice y lo hi)) _ _ G ⟨_, rfl⟩ h4
end
end Mine
end

section
set_option maxRecDepth 10000
namespace Mine

def FrOk (names : List Str) (m : Ms) (f : Str → Option Value) : Prop := ∀ i x, names[i]? = some x → RzO (m.lookup i) (f x)
theorem FrOk.empty {names : List Str} : FrOk names [] fun _ => .none := fun _ _ _ => trivial
theorem FrOk.set {names : List Str} {m : Ms} {f : Str → Option Value} (h : FrOk names m f) (nd : names.Nodup) {i : Nat} {n : Str} {x : V} {v : Value} (hn : names[i]? = some n) (hv : Rz x v) :
    FrOk names ((i, x) :: m) fun y => if y = n then some v else f y := fun j y hj => by
  show RzO _ (if y = n then some v else f y)
  by_cases hy : y = n
  · subst hy
    obtain rfl := nodup_get nd hn hj
    simp only [if_true, List.lookup_cons, beq_self_eq_true]
    exact hv
  · have hij : j ≠ i := by rintro rfl; rw [hn] at hj; exact hy (Option.some.inj hj).symm
    rw [if_neg hy, List.lookup_cons, beq_eq_false_iff_ne.mpr hij]
    exact h j y hj
theorem FrOk.other {names : List Str} {m : Ms} {f : Str → Option Value} (h : FrOk names m f) {n : Str} {v : Value} (hn : n ∉ names) :
    FrOk names m fun y => if y = n then some v else f y := fun j y hj => by
  have hy : y ≠ n := by rintro rfl; exact hn (List.mem_of_getElem? hj)
  show RzO _ (if y = n then some v else f y)
  rw [if_neg hy]; exact h j y hj

/-- where the arguments go: the frame's slots -/
def bindMs (kindOf : Str → Option NameKind) (names : List Str) : List (Str × V) → Ms → Ms
  | [], m => m
  | (n, x) :: r, m => bindMs kindOf names r (if kindOf n = some .local then (names.idxOf n, x) :: m else m)
/-- and the cells -/
def bindCs (kindOf : Str → Option NameKind) : List (Str × V) → (Str → Option V) → Str → Option V
  | [], m => m
  | (n, x) :: r, m => bindCs kindOf r (if kindOf n = some .local then m else fun y => if y = n then some x else m y)

theorem bindMs_ok {kindOf : Str → Option NameKind} {names : List Str} (nd : names.Nodup) : ∀ {xs : List (Str × V)} {bs : List (Str × Value)} {m : Ms} {f : Str → Option Value},
    xs.map (·.1) = bs.map (·.1) → RzL (xs.map (·.2)) (bs.map (·.2)) → (∀ x ∈ xs, kindOf x.1 = some .local → x.1 ∈ names) → FrOk names m f → FrOk names (bindMs kindOf names xs m) (bindL kindOf bs f)
  | [], [], _, _, _, _, _, h => h
  | (n, x) :: xs, (n', v) :: bs, m, f, e, hz, hin, h => by
    simp only [List.map_cons, List.cons.injEq] at e
    obtain ⟨rfl, e⟩ := e
    unfold bindMs bindL
    refine bindMs_ok nd e hz.2 (fun y hy => hin y (.tail _ hy)) ?_
    by_cases hk : kindOf n = some .local
    · rw [if_pos hk, if_pos hk]
      have hm := hin (n, x) (.head _) hk
      refine h.set nd ?_ hz.1
      have hlt := List.idxOf_lt_length_of_mem hm
      rw [List.getElem?_eq_getElem hlt, List.getElem_idxOf]
    · rw [if_neg hk, if_neg hk]; exact h
  | [], _ :: _, _, _, e, _, _, _ => by simp at e
  | _ :: _, [], _, _, e, _, _, _ => by simp at e
theorem bindCs_ok {kindOf : Str → Option NameKind} : ∀ {xs : List (Str × V)} {bs : List (Str × Value)} {g : Str → Option V} {f : Str → Option Value},
    xs.map (·.1) = bs.map (·.1) → RzL (xs.map (·.2)) (bs.map (·.2)) → (∀ x, RzO (g x) (f x)) → ∀ x, RzO (bindCs kindOf xs g x) (bindC kindOf bs f x)
  | [], [], _, _, _, _, h => h
  | (n, x) :: xs, (n', v) :: bs, g, f, e, hz, h => by
    simp only [List.map_cons, List.cons.injEq] at e
    obtain ⟨rfl, e⟩ := e
    unfold bindCs bindC
    refine bindCs_ok e hz.2 fun y => ?_
    by_cases hk : kindOf n = some .local
    · rw [if_pos hk, if_pos hk]; exact h y
    · rw [if_neg hk, if_neg hk]
      show RzO (if y = n then some x else g y) (if y = n then some v else f y)
      by_cases hy : y = n
      · rw [if_pos hy, if_pos hy]; exact hz.1
      · rw [if_neg hy, if_neg hy]; exact h y
  | [], _ :: _, _, _, e, _, _ => by simp at e
  | _ :: _, [], _, _, e, _, _ => by simp at e

def cellObjs (cs : List (Str × Addr)) (g : Str → Option V) : Sto := cs.map fun p => (p.2, .cell (g p.1))

theorem Rel.enter {S0 : Shared} {τ : Sto} {s s₁ : Shared} (R : Rel S0 τ s) {names : List Str} {m : Ms} {f cm : Str → Option Value} {g : Str → Option V} {cs : List (Str × Addr)} (X : InCallC s s.heap.objs.size f cs cm s₁)
    (hm : FrOk names m f) (hnd : (cs.map (·.1)).Nodup) (hg : ∀ x, RzO (g x) (cm x)) : Rel S0 ((s.heap.objs.size, .frame names m) :: (cellObjs cs g ++ τ)) s₁ := by
  obtain ⟨h', tk, e, k⟩ := X.done
  have Rg : Rel S0 τ s₁ := by rw [e]; exact R.grow k tk
  have hL : S0.heap.get? s.heap.objs.size = .none := R.fresh
  have big : ∀ a, s.heap.objs.size ≤ a → S0.heap.get? a = .none := fun a ha => by
    cases q : S0.heap.get? a with
    | none => rfl
    | some o => exact absurd (Nat.lt_of_lt_of_le (Heap.lt_size (R.keep _ _ q)) ha) (Nat.lt_irrefl _)
  have cmem : ∀ p, p ∈ cellObjs cs g → ∃ n, (n, p.1) ∈ cs ∧ p.2 = .cell (g n) := fun p hp => by
    obtain ⟨q, hq, rfl⟩ := List.mem_map.mp hp
    exact ⟨q.1, hq, rfl⟩
  refine ⟨Rg.gens, Rg.drawn, Rg.os, Rg.keep, ?_, fun p hp => ?_⟩
  · rw [List.map_cons, List.nodup_cons, List.map_append, List.nodup_append]
    refine ⟨fun hx => ?_, ?_, Rg.nodup, fun a ha b hb => ?_⟩
    · rcases List.mem_append.mp hx with hx | hx
      · obtain ⟨p, hp, e⟩ := List.mem_map.mp hx
        obtain ⟨n, hn, _⟩ := cmem p hp
        have := X.above n p.1 hn
        rw [e] at this; exact Nat.lt_irrefl _ this
      · obtain ⟨p, hp, e⟩ := List.mem_map.mp hx
        have := R.lt hp
        rw [e] at this; exact Nat.lt_irrefl _ this
    · unfold cellObjs
      rw [List.map_map]
      show (cs.map fun p => p.2).Nodup
      rw [List.nodup_iff_pairwise_ne, List.pairwise_map]
      exact X.apart
    · obtain ⟨p, hp, rfl⟩ := List.mem_map.mp ha
      obtain ⟨q, hq, rfl⟩ := List.mem_map.mp hb
      obtain ⟨n, hn, _⟩ := cmem p hp
      exact Nat.ne_of_gt (Nat.lt_trans (R.lt hq) (X.above n p.1 hn))
  · rcases List.mem_cons.mp hp with rfl | hp
    · refine ⟨hL, ?_⟩
      obtain ⟨o, es, ep, ho, hd, hk, hf⟩ := X.toInCall.ns
      exact ⟨o, ho, es, ep, hd, hk, fun i x hx => by rw [hf x]; exact hm i x hx⟩
    · rcases List.mem_append.mp hp with hp | hp
      · obtain ⟨n, hn, e2⟩ := cmem p hp
        have hlk : cs.lookup n = some p.1 := lookup_of_mem_nodup hnd hn
        obtain ⟨o, ho, hd⟩ := X.cell n p.1 hlk
        refine ⟨big _ (Nat.le_of_lt (X.above n p.1 hn)), o, ho, ?_⟩
        rw [e2]
        exact ⟨_, hd, hg n⟩
      · exact Rg.objs p hp

section
variable (prog : Program) (w : World) (S0 : Shared)
def Kpr (f : V) : Prop := ∀ fv, Rz f fv → ∃ k, (k = Keeper.frame ∨ k = Keeper.machine ∨ k = Keeper.boundFrame) ∧ Looks (model prog w) S0.heap (keeperOf fv) k
def Cal (c : Cx) (m : Ms) (σ : Sto) (f : V) (xs : List V) (kws : List (Str × V)) (K : V → Sto → Prop) : Prop :=
  ∀ fv vs ks, Rz f fv → RzL xs vs → RzL (kws.map (·.2)) ks → Op prog w S0 c m σ (call fv vs ((kws.map (·.1)).zip ks)) K
def Mth (c : Cx) (m : Ms) (σ : Sto) (x : V) (name : Str) (K : V → List V → Sto → Prop) : Prop :=
  ∀ v, Rz x v → ∀ pl, Tr prog w S0 c.A (c.st m σ) (getMethod v name pl) fun r τ => ∃ f xs σ', Rz f r.1 ∧ RzL xs r.2 ∧ Imp S0 τ (c.st m σ') ∧ K f xs σ'
end
section
variable {prog : Program} {w : World} {S0 : Shared} {c : Cx} {m : Ms} {σ : Sto} {K : V → Sto → Prop}

theorem kpr_blt {id : String} : Kpr prog w S0 (.abs (.builtin id)) := by rintro _ rfl; exact ⟨_, .inr (.inl rfl), Looks.of_pure rfl⟩
theorem kpr_type {T : String} : Kpr prog w S0 (.abs (.type T)) := by rintro _ rfl; exact ⟨_, .inr (.inl rfl), Looks.of_pure rfl⟩
theorem kpr_fn {a : Addr} {o : Obj} {fd : FuncData} (ho : S0.heap.get? a = some o) (hd : o.data = .func fd) : Kpr prog w S0 (.ref a) := by
  rintro _ rfl
  refine ⟨.frame, .inl rfl, fun A Q E s k q => ?_⟩
  unfold keeperOf
  refine wpAny_bind (wpAny_load (k _ _ ho) ?_)
  rw [hd]; exact wpAny_pure q

theorem evalArgs_sp {A : Around} {E : Value → Shared → Prop} {s : Shared} {M : Model} {f : Value} {args : List (Bool × Sem Value)} {Q : Args → Shared → Prop} (hp : args.any (·.1) = false)
    (h : wpAny M A (spliced args) (fun vs s' => Q ⟨vs, []⟩ s') E s) : wpAny M A (evalArgs f true args []) Q E s := by
  match args, hp with
  | [], _ =>
    unfold evalArgs
    show wpAny M A (spliced [] >>= _) Q E s
    refine wpAny_bind (wpAny_mono h (fun vs s' h' => wpAny_bind (wpAny_pure ?_)) fun _ _ x => x)
    refine wpAny_holding ?_
    exact wpAny_bind (wpAny_pure (wpAny_bind (wpAny_pure (wpAny_pure h'))))
  | (false, x) :: r, _ => exact evalArgs_plain h

theorem ev_call {id : Str} {p pos : Pos} {args : List Expr}
    (h : Ev prog w S0 c (.Name id p) m σ fun f σ1 => Kpr prog w S0 f ∧ Evs prog w S0 c pos args m σ1 fun xs σ2 => Cal prog w S0 c m σ2 f xs [] K)
    (hp : (backTo pos (starEach args c.env)).any (·.1) = false := by rfl) : Ev prog w S0 c (.Call (.Name id p) args [] pos) m σ K :=
  Op.of fun s R Q E k => by
    rw [arm_eval_Call_Name']
    refine wpAny_bind (Op.get h s R _ E fun fv f σ1 s1 R1 hf h1 => ?_)
    refine callWith_of (P := fun h => ∀ b o, S0.heap.get? b = some o → h.get? b = some o) (by rw [hp]; rfl) (fun h kk => by
      obtain ⟨k, hk, L⟩ := h1.1 fv hf
      exact ⟨k, hk, L.keeps kk⟩) (evalArgs_sp hp (Evs.get h1.2 s1 R1 _ E fun vs xs σ2 s2 R2 hxs h2 => ⟨R2.keep, ?_⟩))
    exact Op.get (h2 fv vs [] hf hxs trivial) s2 R2 Q E k

theorem ev_meth {o : Expr} {name : Str} {apos pos : Pos} {args : List Expr}
    (h : Ev prog w S0 c o m σ fun x σ1 => Mth prog w S0 c m σ1 x name fun f first σ2 => Kpr prog w S0 f ∧ Evs prog w S0 c pos args m σ2 fun xs σ3 => Cal prog w S0 c m σ3 f (first ++ xs) [] K)
    (hbase : attributeBase o name c.env (eval o c.env) = eval o c.env := by rfl) (hform : methodCallForm (args.length + 0) (backTo pos (starEach args c.env)) [] = true := by rfl) (hline : (apos.endLine == pos.line) = true := by rfl)
    (hp : (backTo pos (starEach args c.env)).any (·.1) = false := by rfl) : Ev prog w S0 c (.Call (.Attribute o name apos) args [] pos) m σ K :=
  Op.of fun s R Q E k => by
    rw [arm_eval_Call, hbase]
    refine wpAny_bind (Op.get h s R _ E fun v x σ1 s1 R1 hx h1 => wpAny_bind (wpAny_standAt ?_))
    unfold methodCall
    rw [show methodCallForm (args.length + ([] : List Keyword).length) (backTo pos (starEach args c.env)) (backToKw pos (keywordEach [] c.env)) = true from hform]
    refine wpAny_bind (wpAny_holding ?_)
    refine h1 v hx _ s1 R1 _ E fun r τ s2 R2 hr => ?_
    obtain ⟨f, first, σ2, hf, hfs, hi, hkp, h2⟩ := hr
    obtain ⟨fv, fs⟩ := r
    have hpos : methodCallPos true o c.env apos pos = pure pos := by unfold methodCallPos; simp [hline]
    refine wpAny_bind (wpAny_of_eq hpos ?_)
    refine callWith_of (P := fun h => ∀ b o, S0.heap.get? b = some o → h.get? b = some o) (by rw [hp]; rfl) (fun h kk => by
      obtain ⟨k, hk, L⟩ := hkp fv hf
      exact ⟨k, hk, L.keeps kk⟩) (evalArgs_sp hp (Evs.get h2 s2 (hi s2 R2) _ E fun vs xs σ3 s3 R3 hxs h3 => ⟨R3.keep, ?_⟩))
    exact Op.get (h3 fv (fs ++ vs) [] hf (hfs.append hxs) trivial) s3 R3 Q E k

/-- a method call with one positional and one named argument -/
theorem ev_meth_kw {o a e : Expr} {name n : Str} {apos pos kp : Pos}
    (h : Ev prog w S0 c o m σ fun x σ1 => Mth prog w S0 c m σ1 x name fun f first σ2 => Kpr prog w S0 f ∧ Ev prog w S0 c a m σ2 fun y σ3 => Ev prog w S0 c e m σ3 fun z σ4 => Cal prog w S0 c m σ4 f (first ++ [y]) [(n, z)] K)
    (hbase : attributeBase o name c.env (eval o c.env) = eval o c.env := by rfl) (hline : (apos.endLine == pos.line) = true := by rfl)
    (hs : starEach [a] c.env = [(false, eval a c.env)] := by rfl) : Ev prog w S0 c (.Call (.Attribute o name apos) [a] [⟨some n, e, kp⟩] pos) m σ K :=
  Op.of fun s R Q E k => by
    rw [arm_eval_Call, hbase]
    refine wpAny_bind (Op.get h s R _ E fun v x σ1 s1 R1 hx h1 => wpAny_bind (wpAny_standAt ?_))
    rw [hs]
    unfold methodCall
    rw [show methodCallForm ([a].length + ([⟨some n, e, kp⟩] : List Keyword).length) (backTo pos [(false, eval a c.env)]) (backToKw pos (keywordEach [⟨some n, e, kp⟩] c.env)) = true from rfl]
    refine wpAny_bind (wpAny_holding ?_)
    refine h1 v hx _ s1 R1 _ E fun r τ s2 R2 hr => ?_
    obtain ⟨f, first, σ2, hf, hfs, hi, hkp, h2⟩ := hr
    obtain ⟨fv, fs⟩ := r
    have hpos : methodCallPos true o c.env apos pos = pure pos := by unfold methodCallPos; simp [hline]
    refine wpAny_bind (wpAny_of_eq hpos ?_)
    refine callWith_of (P := fun h => ∀ b o, S0.heap.get? b = some o → h.get? b = some o) rfl (fun h kk => by
      obtain ⟨k, hk, L⟩ := hkp fv hf
      exact ⟨k, hk, L.keeps kk⟩) ?_
    refine evalArgs_kw rfl (spliced_cons (Op.get h2 s2 (hi s2 R2) _ E fun y' y σ3 s3 R3 hy h3 => spliced_nil (wpAny_evalAll_cons ?_)))
    refine wpAny_bind (Op.get h3 s3 R3 _ E fun z' z σ4 s4 R4 hz h4 => wpAny_bind (wpAny_standAt (wpAny_pure (wpAny_evalAll_nil ⟨R4.keep, ?_⟩))))
    exact Op.get (h4 fv (fs ++ [y']) [z'] hf (hfs.append ⟨hy, trivial⟩) ⟨hz, trivial⟩) s4 R4 Q E k
end
end Mine
end

section
set_option maxRecDepth 10000
namespace Mine
section
variable {prog : Program} {w : World} {S0 : Shared} {c : Cx} {m : Ms} {σ : Sto} {K : V → Sto → Prop}

abbrev fenv (fd : FuncData) (a L : Addr) : Env := newEnv fd.scope L fd.globals (cellsFrom (L + 1) fd.scope.names []) (fd.qualname ++ ".<locals>.") (some a) fd.code .none fd.builtins

/-- the context in a called def -/
def Cx.into (c : Cx) (m : Ms) (fd : FuncData) (a L : Addr) (names : List Str) (hk : fd.scope.kind = .function) (hg : fd.globals = mainGlobals) (hb : fd.builtins = builtinsNs) (nd : names.Nodup) : Cx :=
  { A := c.A.deeper (fenv fd a L), env := fenv fd a L, names := names, F := (c.env.locals, .frame c.names m) :: c.F, kind := hk, glob := hg, blt := hb, hand := c.hand, nd := nd }

/-- what a def needs to be called -/
structure FnOk (S0 : Shared) (a : Addr) (fd : FuncData) (body : List Stmt) (names : List Str) : Prop where
  at_ : ∃ o, S0.heap.get? a = some o ∧ o.data = .func fd
  body : fd.body = .stmts body
  co : fd.scope.isCoroutine = false
  gen : fd.scope.isGenerator = false
  kind : fd.scope.kind = .function
  clo : fd.closure = []
  glob : fd.globals = mainGlobals
  blt : fd.builtins = builtinsNs
  code : S0.heap.CodeRec fd.code fd.qualname
  nd : names.Nodup
  loc : ∀ x, fd.scope.names.lookup x = some .local → x ∈ names
  ndc : ((cellsFrom 0 fd.scope.names []).map (·.1)).Nodup

def Binds (prog : Program) (w : World) (S0 : Shared) (c : Cx) (m : Ms) (σ : Sto) (fd : FuncData) (xs : List V) (kws : List (Str × V)) (P : List (Str × V) → Sto → Prop) : Prop :=
  ∀ vs ks, RzL xs vs → RzL (kws.map (·.2)) ks → Tr prog w S0 c.A.in1 (c.st m σ) (bindArgs fd ⟨vs, (kws.map (·.1)).zip ks⟩) fun bs τ =>
    ∃ bxs σ', bxs.map (·.1) = bs.map (·.1) ∧ RzL (bxs.map (·.2)) (bs.map (·.2)) ∧ Imp S0 τ (c.st m σ') ∧ P bxs σ'

def RetK (S0 : Shared) (c : Cx) (m : Ms) (K : V → Sto → Prop) : Fl → Ms → Sto → Prop := fun F _ σ2 => ∃ σ3, Imp S0 (c.st m σ2) (c.st m σ3) ∧ match F with
  | .ret x => K x σ3
  | .next => K .none σ3
  | _ => False

theorem code_def {mg mb : Str → Option Value} {a : Addr} {fd : FuncData} {body : List Stmt} {names : List Str} {xs : List V} {kws : List (Str × V)} (B : Bs S0 mg mb) (FO : FnOk S0 a fd body names) (hroom : c.A.depth < recursionLimit)
    (h : Binds prog w S0 c m σ fd xs kws fun bxs σ' => (bxs.all fun x => fd.scope.names.lookup x.1 == some .local || (fd.scope.names.lookup x.1 == some .cell && ((cellsFrom 0 fd.scope.names []).map (·.1)).contains x.1)) = true ∧
      ∀ L, Ex prog w S0 (c.into m fd a L names FO.kind FO.glob FO.blt FO.nd) body (bindMs (fun n => fd.scope.names.lookup n) names bxs [])
        (cellObjs (cellsFrom (L + 1) fd.scope.names []) (bindCs (fun n => fd.scope.names.lookup n) bxs fun _ => .none) ++ σ') (RetK S0 c m K))
    {vs ks : List Value} (hxs : RzL xs vs) (hks : RzL (kws.map (·.2)) ks) {s : Shared} (R : Rel S0 (c.st m σ) s) {Rr : Result → Shared → Prop} (k : ∀ v V σ' s', Rel S0 (c.st m σ') s' → Rz V v → K V σ' → Rr (.ok (.ret v)) s') :
    codeAny (model prog w) c.A (.call (.ref a) ⟨vs, (kws.map (·.1)).zip ks⟩) Rr s := by
  obtain ⟨o, ho, hd⟩ := FO.at_
  refine codeAny_call_function hroom (R.keep _ _ ho) hd FO.co FO.gen FO.body (FO.code.keeps R.keep) ?_
  refine h vs ks hxs hks s R _ _ fun bs τ s1 R1 hb => ?_
  obtain ⟨bxs, σ1, hn, hz, hi, hok, hex⟩ := hb
  have R1 := hi s1 R1
  rw [FO.clo]
  have hnames : ∀ n acc, (cellsFrom n fd.scope.names acc).map (·.1) = (cellsFrom 0 fd.scope.names acc).map (·.1) := fun n acc => cellsFrom_names _ _ _ _ _ rfl
  have hkind : ∀ x ∈ bs, fd.scope.names.lookup x.1 = some .local ∨ (fd.scope.names.lookup x.1 = some .cell ∧ ((cellsFrom (s1.heap.objs.size + 1) fd.scope.names []).lookup x.1).isSome = true) := fun x hx => by
    have hm : x.1 ∈ bxs.map (·.1) := by rw [hn]; exact List.mem_map_of_mem hx
    obtain ⟨y, hy, e⟩ := List.mem_map.mp hm
    have := List.all_eq_true.mp hok y hy
    rw [e] at this
    simp only [Bool.or_eq_true, Bool.and_eq_true, beq_iff_eq, List.contains_iff_mem] at this
    refine this.imp id fun ⟨p, q⟩ => ⟨p, ?_⟩
    rw [← hnames (s1.heap.objs.size + 1)] at q
    obtain ⟨z, hz, e⟩ := List.mem_map.mp q
    have nd : ((cellsFrom (s1.heap.objs.size + 1) fd.scope.names []).map (·.1)).Nodup := by rw [hnames]; exact FO.ndc
    rw [← e, lookup_of_mem_nodup nd (c := z.2) hz]; rfl
  refine wpAny_newFunctionEnv_cells FO.kind hkind fun env he s2 X => ?_
  subst he
  refine ⟨(B.lim.keeps R1.keep).keeps X.toInCall.keep, codeAny_func ?_⟩
  have hL : (fenv fd a s1.heap.objs.size).locals = s1.heap.objs.size := rfl
  have R2 := Rel.enter R1 (names := names) (m := bindMs (fun n => fd.scope.names.lookup n) names bxs []) (g := bindCs (fun n => fd.scope.names.lookup n) bxs fun _ => .none) X
    (bindMs_ok FO.nd hn hz (fun x hx hl => FO.loc _ hl) FrOk.empty) (by show ((cellsFrom (s1.heap.objs.size + 1) fd.scope.names []).map (·.1)).Nodup; rw [hnames]; exact FO.ndc) (bindCs_ok hn hz fun _ => trivial)
  have R3 : Rel S0 ((c.into m fd a s1.heap.objs.size names FO.kind FO.glob FO.blt FO.nd).st (bindMs (fun n => fd.scope.names.lookup n) names bxs [])
      (cellObjs (cellsFrom (s1.heap.objs.size + 1) fd.scope.names []) (bindCs (fun n => fd.scope.names.lookup n) bxs fun _ => .none) ++ σ1)) s2 := by
    refine R2.perm (.cons _ ?_)
    show List.Perm (_ ++ ((c.env.locals, O.frame c.names m) :: (c.F ++ σ1))) ((c.env.locals, O.frame c.names m) :: c.F ++ (_ ++ σ1))
    rw [← List.cons_append, ← List.append_assoc, ← List.append_assoc]
    exact List.Perm.append_right _ List.perm_append_comm
  refine Ex.get (hex _) s2 R3 _ _ fun f F m2 σ2 s3 R4 hf hk => ?_
  obtain ⟨σ3, hi3, hk⟩ := hk
  have R5 : Rel S0 (c.st m σ3) s3 := hi3 _ (R4.sub (List.sublist_cons_self _ _))
  cases F with
  | next => obtain rfl : f = .next := hf; exact k _ .none σ3 s3 R5 rfl hk
  | ret x => obtain ⟨v, rfl, hv⟩ := hf; exact k _ x σ3 s3 R5 hv hk
  | brk => exact hk.elim
  | cont => exact hk.elim


theorem cal_def {mg mb : Str → Option Value} {a : Addr} {fd : FuncData} {body : List Stmt} {names : List Str} {xs : List V} {kws : List (Str × V)} (B : Bs S0 mg mb) (FO : FnOk S0 a fd body names) (hroom : c.A.depth < recursionLimit)
    (h : Binds prog w S0 c m σ fd xs kws fun bxs σ' => (bxs.all fun x => fd.scope.names.lookup x.1 == some .local || (fd.scope.names.lookup x.1 == some .cell && ((cellsFrom 0 fd.scope.names []).map (·.1)).contains x.1)) = true ∧
      ∀ L, Ex prog w S0 (c.into m fd a L names FO.kind FO.glob FO.blt FO.nd) body (bindMs (fun n => fd.scope.names.lookup n) names bxs [])
        (cellObjs (cellsFrom (L + 1) fd.scope.names []) (bindCs (fun n => fd.scope.names.lookup n) bxs fun _ => .none) ++ σ') (RetK S0 c m K)) : Cal prog w S0 c m σ (.ref a) xs kws K := by
  rintro _ vs ks rfl hxs hks
  exact Op.of fun s R Q E k => wpAny_call (code_def B FO hroom h hxs hks R k)

/-- positional arguments alone, no defaults -/
theorem binds_pos {fd : FuncData} {xs : List V} {ns : List Str} {P : List (Str × V) → Sto → Prop} (hl : xs.length = ns.length)
    (hb : ∀ vs : List Value, vs.length = xs.length → bindArgs fd ⟨vs, []⟩ = pure (ns.zip vs)) (h : P (ns.zip xs) σ) : Binds prog w S0 c m σ fd xs [] P := fun vs ks hz _ => by
  show Tr prog w S0 c.A.in1 (c.st m σ) (bindArgs fd ⟨vs, []⟩) _
  rw [hb vs hz.length.symm]
  have lz : ∀ (ns : List Str) (xs : List V) (vs : List Value), RzL xs vs → xs.length = ns.length → (ns.zip xs).map (·.1) = (ns.zip vs).map (·.1) ∧ RzL ((ns.zip xs).map (·.2)) ((ns.zip vs).map (·.2)) := by
    intro ns
    induction ns with
    | nil => intro xs vs _ _; exact ⟨rfl, trivial⟩
    | cons n ns ih =>
      intro xs vs hz hl
      cases xs with
      | nil => simp at hl
      | cons x xs => cases vs with
        | nil => exact hz.elim
        | cons v vs =>
          obtain ⟨a, b⟩ := ih xs vs hz.2 (by simpa using hl)
          exact ⟨by simp [a], hz.1, b⟩
  obtain ⟨a, b⟩ := lz ns xs vs hz hl
  exact Tr.pure ⟨_, σ, a, b, Imp.rfl, h⟩
end
end Mine
end

section
set_option maxRecDepth 10000
namespace Mine
section
variable (prog : Program) (w : World) (S0 : Shared)

/-- an iterator of the machine: it tells xs, one by one, while P stands -/
structure Itr (it : Addr) (o : Nat → O) (xs : List V) (P : Sto → Prop) : Prop where
  next : ∀ {A : Around} {s : Shared} {τ : Sto} {i : Nat} {x : V}, A.handled = .none → Rel S0 ((it, o i) :: τ) s → P τ → xs[i]? = some x → ∀ (Q : Option Value → Shared → Prop) (E : Value → Shared → Prop),
    (∀ v s', Rel S0 ((it, o (i + 1)) :: τ) s' → Rz x v → Q (some v) s') → wpAny (model prog w) A (pyNext (.ref it)) Q E s
  done : ∀ {A : Around} {s : Shared} {τ : Sto} {i : Nat}, A.handled = .none → Rel S0 ((it, o i) :: τ) s → P τ → xs[i]? = .none → ∀ (Q : Option Value → Shared → Prop) (E : Value → Shared → Prop),
    (∀ s', Rel S0 τ s' → Q .none s') → wpAny (model prog w) A (pyNext (.ref it)) Q E s
  mono : ∀ {τ : Sto} {q : Addr × O}, P τ → P (q :: τ)
  self : ∀ {A : Around} {s : Shared} {τ : Sto} {i : Nat}, Rel S0 ((it, o i) :: τ) s → ∀ (Q : Value → Shared → Prop) (E : Value → Shared → Prop), Q (.ref it) s → wpAny (model prog w) A (pyIter (.ref it)) Q E s
  owned : ∀ {A : Around} {s : Shared} {τ : Sto} {i : Nat} (t : Expr) (v : Value), Rel S0 ((it, o i) :: τ) s → ∀ (Q : Unit → Shared → Prop) (E : Value → Shared → Prop), Q () s → wpAny (model prog w) A (letOwnedTupleGo t (.ref it) v) Q E s

/-- what may be gone through -/
def Itb (x : V) (xs : List V) (P : Sto → Prop) : Prop :=
  ∀ {A : Around} {s : Shared} {τ : Sto} {v : Value}, A.handled = .none → Rel S0 τ s → P τ → Rz x v → ∀ (Q : Value → Shared → Prop) (E : Value → Shared → Prop),
    (∀ it o s', Itr prog w S0 it o xs P → Rel S0 ((it, o 0) :: τ) s' → Q (.ref it) s') → wpAny (model prog w) A (pyIter v) Q E s
end
section
variable {prog : Program} {w : World} {S0 : Shared}

/-- the head of the store is changed, no more -/
theorem Rel.hd {a : Addr} {x y : O} {τ : Sto} {s : Shared} (R : Rel S0 ((a, x) :: τ) s) {h' : Heap} (hs : Heap.SameBut a s.heap h') {o : Obj} (ho : h'.get? a = some o) (hy : OR y o) (t : Nat) : Rel S0 ((a, y) :: τ) { s with heap := h', toks := t } :=
  R.put .head hs ho hy t
/-- the head of the store is let go -/
theorem Rel.gone {a : Addr} {x : O} {τ : Sto} {s : Shared} (R : Rel S0 ((a, x) :: τ) s) {h' : Heap} (hs : Heap.ExtBut a s.heap h') (t : Nat) : Rel S0 τ { s with heap := h', toks := t } := by
  have nd := R.nodup
  rw [List.map_cons, List.nodup_cons] at nd
  have ha := (R.objs _ (.head _)).1
  refine ⟨R.gens, R.drawn, R.os, fun b o e => hs b o (fun q => ?_) (R.keep b o e), nd.2, fun p hp => ?_⟩
  · subst q; rw [ha] at e; cases e
  · obtain ⟨q, o, ho, h⟩ := R.objs p (.tail _ hp)
    exact ⟨q, o, hs _ _ (fun q => nd.1 (q ▸ (List.mem_map_of_mem hp : p.1 ∈ τ.map (·.1)))) ho, h⟩

theorem owned_of {it : Addr} {s : Shared} {A : Around} {o : Obj} {T : String} (ho : s.heap.get? it = some o) (hc : o.cls = .type T)
    (hT : ["enumerate", "zip", "dict_itemiterator", "dict_reverseitemiterator", "odict_iterator", "itertools.zip_longest", "itertools.pairwise"].contains T = false)
    (t : Expr) (v : Value) (Q : Unit → Shared → Prop) (E : Value → Shared → Prop) (h : Q () s) : wpAny (model prog w) A (letOwnedTupleGo t (.ref it) v) Q E s := by
  unfold letOwnedTupleGo
  split
  all_goals first
    | exact wpAny_pure h
    | (cases v <;> first
        | exact wpAny_pure h
        | (refine wpAny_bind (wpAny_load ho ?_)
           rw [hc]
           cases o.data <;> first
             | exact wpAny_pure h
             | (simp only [hT, Bool.false_and]; exact wpAny_pure h)))

/- lists -/
theorem itr_list {it l : Addr} {xs : List V} : Itr prog w S0 it (fun i => .liter l i) xs fun τ => (l, O.list xs) ∈ τ where
  next := fun {A s τ i x} hh R hP hx Q E k => by
    obtain ⟨_, o, ho, hc, hd⟩ := R.objs _ (.head _)
    obtain ⟨vs, n, hl, hz⟩ := list_at R (.tail _ hP)
    obtain ⟨v, hv, hzv⟩ := hz.get hx
    refine wpAny_pyNext_list_item ⟨o, ho, hc, hd⟩ hl.isList (x := v) (by simpa using hv) fun h' hi hs => ?_
    obtain ⟨o', ho', hc', hd'⟩ := hi
    exact k v _ (R.hd (y := .liter l (i + 1)) hs ho' ⟨hc', hd'⟩ s.toks) hzv
  done := fun {A s τ i} hh R hP hx Q E k => by
    obtain ⟨_, o, ho, hc, hd⟩ := R.objs _ (.head _)
    obtain ⟨vs, n, hl, hz⟩ := list_at R (.tail _ hP)
    refine wpAny_pyNext_list_end hh ⟨o, ho, hc, hd⟩ hl.isList (by simpa [hz.length] using hx) fun h' hs => k _ (R.gone hs s.toks)
  mono := fun h => .tail _ h
  self := fun {A s τ i} R Q E k => by
    obtain ⟨_, o, ho, hc, hd⟩ := R.objs _ (.head _)
    exact wpAny_pyIter_listiter ⟨o, ho, hc, hd⟩ k
  owned := fun {A s τ i} t v R Q E k => by
    obtain ⟨_, o, ho, hc, hd⟩ := R.objs _ (.head _)
    exact owned_of ho hc (by decide) t v Q E k
theorem itb_list {l : Addr} {xs : List V} : Itb prog w S0 (.ref l) xs fun τ => (l, O.list xs) ∈ τ := by
  rintro A s τ _ hh R hP rfl Q E k
  obtain ⟨vs, n, hl, hz⟩ := list_at R hP
  refine wpAny_pyIter_list hl.isList (k _ _ _ itr_list ?_)
  exact R.alloc (x := .liter l 0) ⟨rfl, rfl⟩ rfl s.toks

/- ranges -/
theorem riter_get (a c : Int) (n i : Nat) (x : V) (h : ((List.range n).map fun j : Nat => V.int (a + (j : Int) * c))[i]? = some x) : i < n ∧ x = .int (a + i * c) := by
  rw [List.getElem?_map, Option.map_eq_some_iff] at h
  obtain ⟨j, hj, rfl⟩ := h
  obtain ⟨hlt, e⟩ := List.getElem?_eq_some_iff.mp hj
  rw [List.getElem_range] at e
  rw [List.length_range] at hlt
  subst e
  exact ⟨hlt, rfl⟩
theorem itr_range {it : Addr} {a c : Int} {n : Nat} : Itr prog w S0 it (fun i => .riter (a + i * c) (n - i : Int) c) ((List.range n).map fun j : Nat => V.int (a + (j : Int) * c)) fun _ => True where
  next := fun {A s τ i x} hh R hP hx Q E k => by
    obtain ⟨_, o, ho, rfl⟩ := R.objs _ (.head _)
    obtain ⟨hi, rfl⟩ := riter_get _ _ _ _ _ hx
    refine wpAny_pyNext_range_item ho (by omega) fun h' hi hs => k _ _ (R.hd (y := .riter (a + ((i + 1 : Nat) : Int) * c) (n - ((i + 1 : Nat) : Int)) c) hs hi ?_ _) ⟨_, rfl⟩
    show _ = _
    have e1 : a + (i : Int) * c + c = a + ((i + 1 : Nat) : Int) * c := by rw [Int.natCast_add, Int.add_mul]; omega
    have e2 : (n : Int) - i - 1 = n - ((i + 1 : Nat) : Int) := by omega
    rw [e1, e2]
  done := fun {A s τ i} hh R hP hx Q E k => by
    obtain ⟨_, o, ho, rfl⟩ := R.objs _ (.head _)
    have hi : n ≤ i := by simpa using hx
    exact wpAny_pyNext_range_end hh ho (by omega) fun h' hs => k _ (R.gone hs s.toks)
  mono := fun h => h
  self := fun {A s τ i} R Q E k => by
    obtain ⟨_, o, ho, rfl⟩ := R.objs _ (.head _)
    exact wpAny_pyIter_rangeiter ho k
  owned := fun {A s τ i} t v R Q E k => by
    obtain ⟨_, o, ho, rfl⟩ := R.objs _ (.head _)
    exact owned_of ho rfl (by decide) t v Q E k
theorem itb_range {r : Addr} {a b c : Int} {n : Nat} (hs : Builtin.Range.small a b c = true) (hn : Builtin.Range.rangeSize a b c = n) : Itb prog w S0 (.ref r) ((List.range n).map fun j : Nat => V.int (a + (j : Int) * c)) fun τ => (r, O.rng a b c) ∈ τ := by
  rintro A s τ _ hh R hP rfl Q E k
  obtain ⟨_, o, ho, t, u, v, rfl⟩ := R.objs _ hP
  refine wpAny_pyIter_range ho hs (k _ (fun i => .riter (a + i * c) (n - i : Int) c) _ ⟨?_, ?_, ?_, ?_, ?_⟩ ?_)
  · exact fun hh R _ hx => itr_range.next hh R trivial hx
  · exact fun hh R _ hx => itr_range.done hh R trivial hx
  · exact fun h => .tail _ h
  · exact fun R => itr_range.self R
  · exact fun t v R => itr_range.owned t v R
  · refine R.alloc ?_ rfl s.toks
    show _ = _
    rw [hn]
    simp

/- texts -/
def signs (x : Str) : List V := x.cps.toList.map fun c => .str ⟨#[c]⟩
theorem itr_str {it : Addr} {x : Str} : Itr prog w S0 it (fun i => .siter x i) (signs x) fun _ => True where
  next := fun {A s τ i y} hh R hP hx Q E k => by
    obtain ⟨_, o, ho, t, hc, hd⟩ := R.objs _ (.head _)
    unfold signs at hx
    rw [List.getElem?_map, Option.map_eq_some_iff] at hx
    obtain ⟨c, hcp, rfl⟩ := hx
    have hcp' : x.cps[i]? = some c := by simpa using hcp
    by_cases ha : x.cps.all (· < 128) = true
    · rw [if_pos ha] at hc
      refine wpAny_pyNext_ascii_item ⟨o, ho, hc, hd⟩ hcp' fun h' ⟨o', ho', hc', hd'⟩ hs => k _ _ (R.hd (y := .siter x (i + 1)) hs ho' ⟨t, ?_, hd'⟩ _) ⟨_, rfl⟩
      rw [if_pos ha]; exact hc'
    · rw [if_neg ha] at hc
      refine wpAny_pyNext_wide_item ⟨o, ho, hc, hd⟩ hcp' fun h' ⟨o', ho', hc', hd'⟩ hs => k _ _ (R.hd (y := .siter x (i + 1)) hs ho' ⟨t, ?_, hd'⟩ _) ⟨_, rfl⟩
      rw [if_neg ha]; exact hc'
  done := fun {A s τ i} hh R hP hx Q E k => by
    obtain ⟨_, o, ho, t, hc, hd⟩ := R.objs _ (.head _)
    have hcp' : x.cps[i]? = .none := by unfold signs at hx; simpa using hx
    by_cases ha : x.cps.all (· < 128) = true
    · rw [if_pos ha] at hc
      exact wpAny_pyNext_ascii_end hh ⟨o, ho, hc, hd⟩ hcp' fun h' hs => k _ (R.gone hs s.toks)
    · rw [if_neg ha] at hc
      exact wpAny_pyNext_wide_end hh ⟨o, ho, hc, hd⟩ hcp' fun h' hs => k _ (R.gone hs s.toks)
  mono := fun h => h
  self := fun {A s τ i} R Q E k => by
    obtain ⟨_, o, ho, t, hc, hd⟩ := R.objs _ (.head _)
    by_cases ha : x.cps.all (· < 128) = true
    · rw [if_pos ha] at hc; exact wpAny_pyIter_striter_ascii ⟨o, ho, hc, hd⟩ k
    · rw [if_neg ha] at hc; exact wpAny_pyIter_striter_wide ⟨o, ho, hc, hd⟩ k
  owned := fun {A s τ i} t' v R Q E k => by
    obtain ⟨_, o, ho, t, hc, hd⟩ := R.objs _ (.head _)
    refine owned_of ho hc ?_ t' v Q E k
    by_cases ha : x.cps.all (· < 128) = true
    · rw [if_pos ha]; decide
    · rw [if_neg ha]; decide
theorem itb_str {x : Str} : Itb prog w S0 (.str x) (signs x) fun _ => True := by
  rintro A s τ _ hh R hP ⟨t, rfl⟩ Q E k
  cases ha : x.cps.all (· < 128)
  · refine wpAny_pyIter_wide ha (k _ _ _ itr_str (R.alloc (x := .siter x 0) ⟨t, ?_, rfl⟩ rfl s.toks))
    rw [ha]; rfl
  · refine wpAny_pyIter_ascii ha (k _ _ _ itr_str (R.alloc (x := .siter x 0) ⟨t, ?_, rfl⟩ rfl s.toks))
    rw [ha]; rfl
end
end Mine
end

section
set_option maxRecDepth 10000
namespace Mine

/-- a frame and a store that tell less -/
structure Wk (m : Ms) (σ : Sto) (m' : Ms) (σ' : Sto) : Prop where
  ms : ∀ i v, m'.lookup i = some v → m.lookup i = some v
  st : σ'.Sublist σ
theorem Wk.rfl {m : Ms} {σ : Sto} : Wk m σ m σ := ⟨fun _ _ h => h, .refl _⟩
def SubMs : Ms → Ms → Prop
  | [], _ => True
  | (i, x) :: r, m => m.lookup i = some x ∧ SubMs r m
theorem SubMs.of {m' m : Ms} (h : SubMs m' m) : ∀ i v, m'.lookup i = some v → m.lookup i = some v := by
  induction m' with
  | nil => intro i v e; cases e
  | cons p r ih =>
    obtain ⟨j, x⟩ := p
    intro i v e
    rw [List.lookup_cons] at e
    cases hij : i == j with
    | true => rw [hij] at e; cases e; rw [beq_iff_eq.mp hij]; exact h.1
    | false => rw [hij] at e; exact ih h.2 i v e
theorem Wk.of {m m' : Ms} {σ σ' : Sto} (h : SubMs m' m) (k : σ'.Sublist σ) : Wk m σ m' σ' := ⟨h.of, k⟩

def Cx.push (c : Cx) (p : Addr × O) : Cx := { c with F := p :: c.F }

section
variable {prog : Program} {w : World} {S0 : Shared} {c : Cx} {m : Ms} {σ : Sto}

theorem Wk.imp {m' : Ms} {σ' : Sto} (h : Wk m σ m' σ') : Imp S0 (c.st m σ) (c.st m' σ') := fun s R => by
  have R1 : Rel S0 (c.st m σ') s := R.sub (.cons_cons _ (.append (.refl _) h.st))
  refine ⟨R1.gens, R1.drawn, R1.os, R1.keep, R1.nodup, fun p hp => ?_⟩
  rcases List.mem_cons.mp hp with rfl | hp
  · obtain ⟨a, o, ho, es, ep, hd, hk, hf⟩ := R1.objs _ (.head _)
    refine ⟨a, o, ho, es, ep, hd, hk, fun i x hx => ?_⟩
    have := hf i x hx
    cases e : m'.lookup i with
    | none => trivial
    | some v => rw [h.ms i v e] at this; exact this
  · exact R1.objs p (.tail _ hp)
theorem Ex.wk {ss : List Stmt} {m' : Ms} {σ' : Sto} {K : Fl → Ms → Sto → Prop} (h : Wk m σ m' σ') (k : Ex prog w S0 c ss m' σ' K) : Ex prog w S0 c ss m σ K := Tr.weak h.imp k
theorem Ev.wk {e : Expr} {σ' : Sto} {K : V → Sto → Prop} (h : σ'.Sublist σ) (k : Ev prog w S0 c e m σ' K) : Ev prog w S0 c e m σ K := Tr.weak (Wk.imp ⟨fun _ _ h => h, h⟩) k

theorem push_perm {p : Addr × O} : (p :: c.st m σ).Perm ((c.push p).st m σ) := List.Perm.swap ..

/- targets -/
def Asg (prog : Program) (w : World) (S0 : Shared) (c : Cx) (t : Expr) (x : V) (m : Ms) (σ : Sto) (K : Ms → Sto → Prop) : Prop :=
  ∀ v, Rz x v → Tr prog w S0 c.A (c.st m σ) (assign t c.env v) fun _ τ => ∃ m' σ', Imp S0 τ (c.st m' σ') ∧ K m' σ'
theorem Asg.of {t : Expr} {x : V} {K : Ms → Sto → Prop} (h : ∀ v, Rz x v → ∀ s, Rel S0 (c.st m σ) s → ∀ Q E, (∀ m' σ' s', Rel S0 (c.st m' σ') s' → K m' σ' → Q () s') → wpAny (model prog w) c.A (assign t c.env v) Q E s) : Asg prog w S0 c t x m σ K :=
  fun v hv s R Q E k => h v hv s R Q E fun m' σ' s' R' hk => k () (c.st m' σ') s' R' ⟨m', σ', Imp.rfl, hk⟩
theorem Asg.get {t : Expr} {x : V} {K : Ms → Sto → Prop} (h : Asg prog w S0 c t x m σ K) : ∀ v, Rz x v → ∀ s, Rel S0 (c.st m σ) s → ∀ Q E, (∀ m' σ' s', Rel S0 (c.st m' σ') s' → K m' σ' → Q () s') → wpAny (model prog w) c.A (assign t c.env v) Q E s :=
  fun v hv s R Q E k => h v hv s R Q E fun _ τ s' R' ⟨m', σ', hi, hk⟩ => k m' σ' s' (hi s' R') hk
theorem asg_name {n : Str} {p : Pos} {x : V} {K : Ms → Sto → Prop} (h : Sto1 prog w S0 c m σ n x K) : Asg prog w S0 c (.Name n p) x m σ K :=
  Asg.of fun v hv s R Q E k => wpAny_assign_Name (h.get v hv s R Q E k)
/-- the stores of a tuple's targets, one after the other -/
def AsgL (prog : Program) (w : World) (S0 : Shared) (c : Cx) : List Expr → List V → Ms → Sto → (Ms → Sto → Prop) → Prop
  | [], [], m, σ, K => K m σ
  | t :: ts, x :: xs, m, σ, K => Asg prog w S0 c t x m σ fun m' σ' => AsgL prog w S0 c ts xs m' σ' K
  | _, _, _, _, _ => False
theorem AsgL.get {ts : List Expr} {xs : List V} {m : Ms} {σ : Sto} {K : Ms → Sto → Prop} (h : AsgL prog w S0 c ts xs m σ K) : ∀ vs, RzL xs vs → ∀ s, Rel S0 (c.st m σ) s → ∀ (Q : Unit → Shared → Prop) E,
    (∀ m' σ' s', Rel S0 (c.st m' σ') s' → K m' σ' → Q () s') → wpAny (model prog w) c.A (assignInOrder (ts.map fun t => assign t c.env) vs) Q E s := by
  induction ts generalizing xs m σ with
  | nil =>
    cases xs with
    | nil => intro vs hz s R Q E k; cases vs with | nil => exact wpAny_pure (k m σ s R h) | cons => exact hz.elim
    | cons => exact h.elim
  | cons t ts ih =>
    cases xs with
    | nil => exact h.elim
    | cons x xs =>
      intro vs hz s R Q E k
      cases vs with
      | nil => exact hz.elim
      | cons v vs =>
        show wpAny _ _ (holding vs (assign t c.env v) >>= fun _ => assignInOrder (ts.map fun t => assign t c.env) vs) _ _ _
        exact wpAny_bind (wpAny_holding (Asg.get h v hz.1 s R _ E fun m' σ' s' R' h' => ih h' vs hz.2 s' R' Q E k))
theorem RzL.len {xs : List V} {vs : List Value} (h : RzL xs vs) : vs.length = xs.length := h.length.symm
theorem each_len : ∀ {ts : List Expr} {xs : List V} {m : Ms} {σ : Sto} {K : Ms → Sto → Prop}, AsgL prog w S0 c ts xs m σ K → (∀ t ∈ ts, ∃ n p, t = .Name n p) → True := fun _ _ => trivial

/-- a, b = (a tuple) -/
theorem asg_tuple {ts : List Expr} {n : Nat} {p : Pos} {a : Addr} {xs : List V} {K : Ms → Sto → Prop} (ha : (a, O.tuple xs) ∈ c.st m σ) (hl : ts.length = xs.length)
    (h : AsgL prog w S0 c ts xs m σ K) (he : assignEach ts c.env = ts.map fun t => (false, assign t c.env) := by rfl) : Asg prog w S0 c (.Tuple ts n p) (.ref a) m σ K :=
  Asg.of fun v hv s R Q E k => by
    obtain rfl : v = .ref a := hv
    obtain ⟨vs, nn, ht, hz⟩ := tuple_at R ha
    refine wpAny_assign_Tuple c.hand ⟨_, ht, rfl, nn, rfl⟩ (by rw [he]; simp [hl, hz.len]) ?_ fun h' hx => ?_
    · rw [he]
      clear he hl h
      induction ts with
      | nil => rfl
      | cons t ts ih => rw [List.map_cons, List.findIdx?_cons, ih]; rfl
    · rw [he, List.map_map]
      have R' : Rel S0 (c.st m σ) { s with heap := h' } := by
        have := R.grow (h' := h') (fun b o e => hx b o (Nat.ne_of_lt (Heap.lt_size e)) e) s.toks
        exact this
      exact h.get vs hz _ R' Q E k

/- for -/
def Turns (prog : Program) (w : World) (S0 : Shared) (c : Cx) (P : Sto → Prop) (t : Expr) (body rest : List Stmt) (K : Fl → Ms → Sto → Prop) : List V → Ms → Sto → Prop
  | [], m, τ => P (c.st m τ) ∧ Ex prog w S0 c rest m τ K
  | x :: xs, m, τ => P (c.st m τ) ∧ ∀ p, Asg prog w S0 (c.push p) t x m τ fun m1 τ1 => Ex prog w S0 (c.push p) body m1 τ1 fun F m' τ' => match F with
      | .next | .cont => ∃ m'' τ'', Wk m' τ' m'' τ'' ∧ Turns prog w S0 c P t body rest K xs m'' τ''
      | .brk => Ex prog w S0 c rest m' τ' K
      | .ret v => K (.ret v) m' τ'

theorem Rel.pop {p : Addr × O} {s : Shared} (R : Rel S0 ((c.push p).st m σ) s) : Rel S0 (c.st m σ) s := (R.perm (push_perm (p := p)).symm).sub (.cons _ (.refl _))

theorem ex_for {t iter : Expr} {body rest : List Stmt} {pos : Pos} {K : Fl → Ms → Sto → Prop}
    (h : Ev prog w S0 c iter m σ fun x σ1 => ∃ xs P, Itb prog w S0 x xs P ∧ Turns prog w S0 c P t body rest K xs m σ1)
    (hs : ∀ x, foldedSetIterable iter c.env x = pure x := by intro _; rfl) : Ex prog w S0 c (.For t iter body [] pos :: rest) m σ K := by
  refine Ex.of fun s R Q E k => wpAny_execs_cons (wpAny_For (Op.get h s R _ E fun v x σ1 s1 R1 hx h1 => ?_) hs)
  obtain ⟨xs, P, hI, hT⟩ := h1
  have hP : P (c.st m σ1) := by cases xs <;> exact hT.1
  refine hI c.hand R1 hP hx _ E fun it o s2 I R2 => ?_
  refine codeAny_forLoop_any (fun n s => ∃ i m τ, i + n = xs.length ∧ Rel S0 ((it, o i) :: c.st m τ) s ∧ Turns prog w S0 c P t body rest K (xs.drop i) m τ) ?_ xs.length ⟨0, m, σ1, by omega, R2, hT⟩
  rintro n s3 ⟨i, m3, τ3, hn, R3, hT3⟩
  cases hi : xs[i]? with
  | none =>
    have e : xs.drop i = [] := List.drop_eq_nil_of_le (by simpa using hi)
    rw [e] at hT3
    refine I.done c.hand R3 hT3.1 hi _ _ fun s4 R4 => ?_
    exact wpAny_execs_nil (Ex.get hT3.2 s4 R4 Q E k)
  | some x =>
    obtain ⟨hlt, ex⟩ := List.getElem?_eq_some_iff.mp hi
    have e : xs.drop i = x :: xs.drop (i + 1) := by rw [List.drop_eq_getElem_cons hlt, ex]
    rw [e] at hT3
    refine I.next c.hand R3 hT3.1 hi _ _ fun v s4 R4 hv => ?_
    refine I.owned t v R4 _ _ ?_
    refine Asg.get (hT3.2 (it, o (i + 1))) v hv s4 (R4.perm push_perm) _ _ fun m5 τ5 s5 R5 h5 => ?_
    refine Ex.get h5 s5 R5 _ _ fun f F m' τ' s6 R6 hf hk => ?_
    have back : ∀ m'' τ'', Wk m' τ' m'' τ'' → Rel S0 ((it, o (i + 1)) :: c.st m'' τ'') s6 := fun m'' τ'' hw => ((hw.imp (c := c.push (it, o (i + 1))) s6 R6).perm push_perm.symm)
    cases F with
    | next => obtain rfl : f = .next := hf; obtain ⟨m'', τ'', hw, hT'⟩ := hk; exact ⟨n - 1, by omega, i + 1, m'', τ'', by omega, back _ _ hw, hT'⟩
    | cont => obtain rfl : f = .cont := hf; obtain ⟨m'', τ'', hw, hT'⟩ := hk; exact ⟨n - 1, by omega, i + 1, m'', τ'', by omega, back _ _ hw, hT'⟩
    | brk => obtain rfl : f = .brk := hf; exact Ex.get hk s6 R6.pop Q E k
    | ret y => obtain ⟨u, rfl, hu⟩ := hf; exact k _ (.ret y) m' τ' s6 R6.pop ⟨u, rfl, hu⟩ hk

/- comprehensions -/
def Tst (prog : Program) (w : World) (S0 : Shared) (c : Cx) : List Expr → Ms → Sto → (Bool → Sto → Prop) → Prop
  | [], _, σ, K => K true σ
  | e :: es, m, σ, K => Et prog w S0 c e m σ fun b σ1 => (b = true → Tst prog w S0 c es m σ1 K) ∧ (b = false → K false σ1)

theorem tests_false {A : Around} {E : Value → Shared → Prop} {env : Env} {s : Shared} {ifs : List Expr} {Q : Bool → Shared → Prop} (h : Q false s) :
    wpAny (model prog w) A (forIn ifs false fun c r => if r = true then do let ok ← isTrue c env (eval c env); pure (ForInStep.yield ok) else pure (ForInStep.yield r)) Q E s := by
  induction ifs with
  | nil => exact wpAny_pure h
  | cons e es ih =>
    rw [List.forIn_cons]
    exact wpAny_bind (wpAny_pure ih)
theorem Tst.get {ifs : List Expr} {m : Ms} {σ : Sto} {K : Bool → Sto → Prop} (h : Tst prog w S0 c ifs m σ K) : ∀ s, Rel S0 (c.st m σ) s → ∀ (Q : Bool → Shared → Prop) E,
    (∀ b σ' s', Rel S0 (c.st m σ') s' → K b σ' → Q b s') → wpAny (model prog w) c.A (forIn ifs true fun e r => if r = true then do let ok ← isTrue e c.env (eval e c.env); pure (ForInStep.yield ok) else pure (ForInStep.yield r)) Q E s := by
  induction ifs generalizing σ with
  | nil => intro s R Q E k; exact wpAny_pure (k true σ s R h)
  | cons e es ih =>
    intro s R Q E k
    rw [List.forIn_cons]
    refine wpAny_bind ?_
    show wpAny _ _ (isTrue e c.env (eval e c.env) >>= fun ok => pure (ForInStep.yield ok)) _ _ _
    refine wpAny_bind (Et.get h s R _ E fun b σ1 s1 R1 h1 => wpAny_pure ?_)
    cases b
    · exact tests_false (k false σ1 s1 R1 (h1.2 rfl))
    · exact ih (h1.1 rfl) s1 R1 Q E k

def CT (prog : Program) (w : World) (S0 : Shared) (c : Cx) (P : Sto → Prop) (t : Expr) (ifs : List Expr) (elt : Expr) (K : List V → Ms → Sto → Prop) : List V → List V → Ms → Sto → Prop
  | [], ys, m, τ => P (c.st m τ) ∧ K ys m τ
  | x :: xs, ys, m, τ => P (c.st m τ) ∧ ys.length ≤ sizeLine ∧ ∀ p q, Asg prog w S0 ((c.push q).push p) t x m τ fun m1 τ1 => Tst prog w S0 ((c.push q).push p) ifs m1 τ1 fun b τ2 =>
      (b = true → Ev prog w S0 ((c.push q).push p) elt m1 τ2 fun y τ3 => ∃ m'' τ'', Wk m1 τ3 m'' τ'' ∧ CT prog w S0 c P t ifs elt K xs (ys ++ [y]) m'' τ'') ∧
      (b = false → ∃ m'' τ'', Wk m1 τ2 m'' τ'' ∧ CT prog w S0 c P t ifs elt K xs ys m'' τ'')
end
end Mine
end

section
set_option maxRecDepth 10000
namespace Mine
section
variable {prog : Program} {w : World} {S0 : Shared} {c : Cx} {m : Ms} {σ : Sto}

theorem cellsFrom_app (names : List (Str × NameKind)) : ∀ (n : Nat) (acc : List (Str × Addr)), cellsFrom n names acc = cellsFrom n names [] ++ acc := by
  induction names with
  | nil => intro n acc; rfl
  | cons p r ih =>
    obtain ⟨x, k⟩ := p
    intro n acc
    unfold cellsFrom
    split
    · rw [ih (n + 1) ((x, n) :: acc), ih (n + 1) [(x, n)], List.append_assoc]; rfl
    · exact ih n acc

abbrev cenv (c : Cx) (scope : Scope) (cl : List (Str × Addr)) (L : Addr) : Env :=
  { scope := relabel scope c.env, locals := L, globals := c.env.globals, cells := cellsFrom (L + 1) scope.names cl, qual := c.env.qual, func := .none, code := c.env.code, frame := c.env.frame, builtins := c.env.builtins }

def Cx.comp (c : Cx) (m : Ms) (scope : Scope) (cl : List (Str × Addr)) (L : Addr) (names : List Str) (hk : scope.kind = .function) (nd : names.Nodup) : Cx :=
  { A := c.A, env := cenv c scope cl L, names := names, F := (c.env.locals, .frame c.names m) :: c.F, kind := hk, glob := c.glob, blt := c.blt, hand := c.hand, nd := nd }

theorem wp_newCompEnv {A : Around} {E : Value → Shared → Prop} {s : Shared} {M : Model} {scope : Scope} {globals : Addr} {cl : List (Str × Addr)} {qual : Str} {env : Env} {Q : Env → Shared → Prop}
    (hQ : Q { scope := scope, locals := s.heap.objs.size, globals := globals, cells := cellsFrom (s.heap.objs.size + 1) scope.names cl, qual := qual, func := .none, code := env.code, frame := env.frame, builtins := env.builtins }
      { s with heap := pushCells (s.heap.push { cls := .type "dict", data := .dict #[] }) scope.names }) :
    wpAny M A (newFunctionEnv scope globals cl [] qual .none .none (some env)) Q E s := by
  simp only [newFunctionEnv, Option.isSome_some, if_true]
  refine wpAny_bind (wpAny_alloc ?_)
  refine wpAny_bind (wpAny_layCells _ (fun name kind cells => by cases hkc : kind == NameKind.cell <;> simp [hkc]) _ _ _ _ ?_)
  rw [show ({ s with heap := s.heap.push { cls := .type "dict", data := .dict #[] } } : Shared).heap.objs.size = s.heap.objs.size + 1 from Heap.size_push ..]
  rw [List.forIn_nil]
  exact wpAny_bind (wpAny_pure (wpAny_pure hQ))

theorem Rel.enterComp {τ : Sto} {s : Shared} (R : Rel S0 τ s) {names : List Str} {scope : Scope} (ndc : ((cellsFrom 0 scope.names []).map (·.1)).Nodup) :
    Rel S0 ((s.heap.objs.size, .frame names []) :: (cellObjs (cellsFrom (s.heap.objs.size + 1) scope.names []) (fun _ => .none) ++ τ))
      { s with heap := pushCells (s.heap.push { cls := .type "dict", data := .dict #[] }) scope.names } := by
  have ok := cellsFrom_ok scope.names (s.heap.push { cls := .type "dict", data := .dict #[] }) (s.heap.objs.size + 1) [] ⟨fun _ _ hm => (nomatch hm), List.Pairwise.nil⟩ (by rw [Heap.size_push]; exact Nat.le_refl _)
  rw [Heap.size_push] at ok
  have X : InCallC s s.heap.objs.size (fun _ => .none) (cellsFrom (s.heap.objs.size + 1) scope.names []) (fun _ => .none) { s with heap := pushCells (s.heap.push { cls := .type "dict", data := .dict #[] }) scope.names } :=
    ⟨⟨⟨_, _, rfl⟩, (Heap.Ns.new s.heap (.type "dict")).keeps (pushCells_keeps _ _), fun b o e => pushCells_keeps _ _ b o (Heap.get?_push_of_some _ e), Nat.le_refl _⟩,
      fun n c hc => (ok.empty n c (mem_of_lookup hc)).1, ok.apart, fun n c hm => (ok.empty n c hm).2⟩
  refine Rel.enter R X FrOk.empty ?_ fun _ => trivial
  rw [cellsFrom_names _ _ _ _ _ rfl]
  exact ndc

/-- the loop of a list comprehension -/
theorem comp_loop {t iter elt : Expr} {ifs : List Expr} {scope : Scope} {pos : Pos} {P : Sto → Prop} {K : List V → Ms → Sto → Prop} {it acc : Addr} {o : Nat → O} {xs : List V} {τ : Sto} {s : Shared} {Rr : Result → Shared → Prop}
    (I : Itr prog w S0 it o xs P) (R : Rel S0 ((it, o 0) :: (acc, .list []) :: c.st m τ) s) (h : CT prog w S0 c P t ifs elt K xs [] m τ)
    (k : ∀ ys m' τ' s', Rel S0 ((acc, .list ys) :: c.st m' τ') s' → K ys m' τ' → Rr (.ok .next) s') :
    codeAny (model prog w) c.A (.compStart (.ListComp elt [⟨t, iter, ifs, 0⟩] scope pos) 0 (.ref it) (.ref acc) c.env) Rr s := by
  have loop : codeAny (model prog w) c.A (.compLoop (.ListComp elt [⟨t, iter, ifs, 0⟩] scope pos) 0 (.ref it) (.ref acc) c.env) Rr s := by
    refine codeAny_loop rfl (fun n s => ∃ i ys m τ, i + n = xs.length ∧ Rel S0 ((it, o i) :: (acc, .list ys) :: c.st m τ) s ∧ CT prog w S0 c P t ifs elt K (xs.drop i) ys m τ) (fun n s3 hI => ?_) xs.length ⟨0, [], m, τ, by omega, R, h⟩
    obtain ⟨i, ys, m3, τ3, hn, R3, hT3⟩ := hI
    show wpAny _ _ ((compTurn (.ListComp elt [⟨t, iter, ifs, 0⟩] scope pos) 0 (.ref it) (.ref acc) c.env).onRaise (fun x => do noteFrame x c.env; theTreesLotGoes x)) _ _ s3
    refine wpAny_noted ?_
    rw [compTurn_list]
    refine wpAny_bind (wpAny_standAt (wpAny_bind ?_))
    cases hi : xs[i]? with
    | none =>
      have e : xs.drop i = [] := List.drop_eq_nil_of_le (by simpa using hi)
      rw [e] at hT3
      exact I.done c.hand R3 (I.mono hT3.1) hi _ _ fun s4 R4 => wpAny_pure (k ys m3 τ3 s4 R4 hT3.2)
    | some x =>
      obtain ⟨hlt, ex⟩ := List.getElem?_eq_some_iff.mp hi
      have e : xs.drop i = x :: xs.drop (i + 1) := by rw [List.drop_eq_getElem_cons hlt, ex]
      rw [e] at hT3
      refine I.next c.hand R3 (I.mono hT3.1) hi _ _ fun v s4 R4 hv => ?_
      refine wpAny_bind (I.owned t v R4 _ _ ?_)
      have toC : ∀ {m τ} , ((it, o (i + 1)) :: (acc, O.list ys) :: c.st m τ).Perm (((c.push (acc, .list ys)).push (it, o (i + 1))).st m τ) := fun {m τ} =>
        (List.Perm.cons _ (push_perm (p := (acc, O.list ys)))).trans push_perm
      refine wpAny_bind (Asg.get (hT3.2.2 (it, o (i + 1)) (acc, .list ys)) v hv s4 (R4.perm toC) _ _ fun m5 τ5 s5 R5 h5 => ?_)
      refine wpAny_bind (Tst.get h5 s5 R5 _ _ fun b τ6 s6 R6 h6 => ?_)
      cases b with
      | false =>
        obtain ⟨m'', τ'', hw, hT'⟩ := h6.2 rfl
        exact wpAny_pure ⟨rfl, n - 1, by omega, i + 1, ys, m'', τ'', by omega, (hw.imp s6 R6).perm toC.symm, hT'⟩
      | true =>
        refine wpAny_bind (wpAny_bind (Op.get (h6.1 rfl) s6 R6 _ _ fun v y τ7 s7 R7 hy h7 => wpAny_bind ?_))
        obtain ⟨m'', τ'', hw, hT'⟩ := h7
        have R8 := (hw.imp s7 R7).perm (toC (m := m'') (τ := τ'')).symm
        obtain ⟨_, ob, hob, vs, nn, rfl, hz⟩ := R8.objs (acc, .list ys) (.tail _ (.head _))
        refine wpAny_list_append_plain ⟨nn, hob⟩ (fun h' ⟨nn', hob'⟩ hs => wpAny_pure (wpAny_pure ⟨rfl, n - 1, by omega, i + 1, ys ++ [y], m'', τ'', by omega, ?_, hT'⟩)) (by rw [List.size_toArray, ← hz.length]; exact hT3.2.1)
        exact Rel.put (y := .list (ys ++ [y])) (.tail .head) R8 hs hob' ⟨vs ++ [v], nn', by simp, hz.snoc hy⟩ s7.toks
  refine codeAny_compStart_list loop (I.self R _ _ loop)

/-- what a list comprehension asks -/
def Lc (prog : Program) (w : World) (S0 : Shared) (c : Cx) (t iter elt : Expr) (ifs : List Expr) (scope : Scope) (cl : List (Str × Addr)) (names : List Str) (hk : scope.kind = .function) (nd : names.Nodup) (m : Ms) (σ : Sto) (K : List V → Sto → Prop) : Prop :=
  Ev prog w S0 c iter m σ fun x σ1 => ∃ xs P, Itb prog w S0 x xs P ∧ P (c.st m σ1) ∧ ∀ L, CT prog w S0 (c.comp m scope cl L names hk nd) P t ifs elt (fun ys _ τ' => ∃ σ', σ'.Sublist τ' ∧ K ys σ') xs [] []
    (cellObjs (cellsFrom (L + 1) scope.names []) (fun _ => .none) ++ σ1)

theorem comp_st {scope : Scope} {cl : List (Str × Addr)} {L : Addr} {names : List Str} {hk : scope.kind = .function} {nd : names.Nodup} {mm : Ms} {τ cs : Sto} :
    (((L, O.frame names mm) :: (cs ++ c.st m τ) : Sto)).Perm ((c.comp m scope cl L names hk nd).st mm (cs ++ τ)) := by
  refine .cons _ ?_
  show List.Perm (cs ++ ((c.env.locals, O.frame c.names m) :: (c.F ++ τ))) (((c.env.locals, O.frame c.names m) :: c.F) ++ (cs ++ τ))
  rw [← List.cons_append, ← List.append_assoc, ← List.append_assoc]
  exact List.Perm.append_right _ List.perm_append_comm

/-- a list comprehension, its value handed on or used -/
theorem comp_any {t iter elt : Expr} {ifs : List Expr} {scope : Scope} {pos : Pos} {cl : List (Str × Addr)} {names : List Str} {nd : names.Nodup} {K : List V → Sto → Prop} {use : Option (Value → Sem Unit)} (hk : scope.kind = .function)
    (ndc : ((cellsFrom 0 scope.names []).map (·.1)).Nodup) (hnames : ∀ x ∈ scope.names, x.2 = .local → scope.names.lookup x.1 = some .local) (hclos : closureFor scope c.env = pure cl) (hs : ∀ x, foldedSetIterable iter c.env x = pure x)
    {s : Shared} (R : Rel S0 (c.st m σ) s) {Q : Value → Shared → Prop} {E : Value → Shared → Prop} (h : Lc prog w S0 c t iter elt ifs scope cl names hk nd m σ K)
    (k : ∀ acc L ys mm σ' s', Rel S0 ((L, .frame names mm) :: c.st m ((acc, .list ys) :: σ')) s' → K ys σ' → match use with
      | .none => ∀ s'', Rel S0 (c.st m ((acc, .list ys) :: σ')) s'' → Q (.ref acc) s''
      | some u => wpAny (model prog w) c.A (u (.ref acc)) (fun _ s1 => ∃ m1 σ1, Rel S0 ((L, .frame names mm) :: c.st m1 σ1) s1 ∧ ∀ s'', Rel S0 (c.st m1 σ1) s'' → Q .none s'') E s') :
    wpAny (model prog w) c.A (comprehension (.ListComp elt [⟨t, iter, ifs, 0⟩] scope pos) scope c.env (firstIterPos [⟨t, iter, ifs, 0⟩] pos) (newList []) false (eval iter c.env) use) Q E s := by
  refine wpAny_comprehension_free rfl hs hclos hk hnames ?_
  refine Op.get h s R _ E fun v x σ1 s1 R1 hx ⟨xs, P, hI, hP, hT⟩ => ?_
  refine hI c.hand R1 hP hx _ E fun it o s2 I R2 => ?_
  refine wpAny_newObj_type ?_ (by size_fits)
  have R3 := R2.alloc (x := .list []) (o := { cls := .type "list", data := .seq #[] }) ⟨[], 0, rfl, trivial⟩ rfl s2.toks
  refine wp_newCompEnv ?_
  have R4 := R3.enterComp (names := names) (scope := scope) ndc
  generalize hacc : s2.heap.objs.size = acc at *
  generalize hL : (s2.heap.push { cls := .type "list", data := .seq #[] }).objs.size = L at *
  generalize hs4 : ({ s2 with heap := pushCells ((s2.heap.push { cls := .type "list", data := .seq #[] }).push { cls := .type "dict", data := .dict #[] }) scope.names } : Shared) = s4 at *
  have R5 : Rel S0 ((it, o 0) :: (acc, .list []) :: (c.comp m scope cl L names hk nd).st [] (cellObjs (cellsFrom (L + 1) scope.names []) (fun _ => .none) ++ σ1)) s4 := by
    refine R4.perm ?_
    refine ((List.Perm.cons _ (List.perm_middle.trans (.cons _ List.perm_middle))).trans ?_).trans (.cons _ (.cons _ comp_st))
    exact (List.Perm.swap ..).trans ((List.Perm.cons _ (List.Perm.swap ..)).trans (List.Perm.swap ..))
  refine comp_loop (c := c.comp m scope cl L names hk nd) I R5 (hT L) fun ys m' τ' s' R6 ⟨σ', hsub, hK⟩ => ?_
  have R7 : Rel S0 ((L, .frame names m') :: c.st m ((acc, .list ys) :: σ')) s' := by
    have p1 : (((acc, O.list ys) :: (c.comp m scope cl L names hk nd).st m' τ' : Sto)).Perm ((L, .frame names m') :: c.st m ((acc, .list ys) :: τ')) :=
      (List.Perm.swap ..).trans (.cons _ (List.perm_middle (l₁ := (c.env.locals, O.frame c.names m) :: c.F)).symm)
    exact (R6.perm p1).sub (.cons_cons _ (.cons_cons _ (.append (.refl _) (.cons_cons _ hsub))))
  have hk7 := k acc L ys m' σ' s' R7 hK
  cases use with
  | none =>
    obtain ⟨mm, hns, _⟩ := frame_ns R7
    refine ⟨mm, hns, fun h' hsb => hk7 _ ?_⟩
    have := R7.gone hsb.extBut s'.toks
    exact this
  | some u =>
    refine wpAny_mono hk7 (fun _ s1 ⟨m1, σ1, R8, h8⟩ => ?_) fun _ _ x => x
    obtain ⟨mm, hns, _⟩ := frame_ns R8
    refine ⟨mm, hns, fun h' hsb => h8 _ ?_⟩
    have := R8.gone hsb.extBut s1.toks
    exact this

/-- a list comprehension -/
theorem ev_comp {K : V → Sto → Prop} {t iter elt : Expr} {ifs : List Expr} {scope : Scope} {pos : Pos} {cl : List (Str × Addr)} {names : List Str} {nd : names.Nodup} (hk : scope.kind = .function)
    (ndc : ((cellsFrom 0 scope.names []).map (·.1)).Nodup) (hnames : ∀ x ∈ scope.names, x.2 = .local → scope.names.lookup x.1 = some .local) (hclos : closureFor scope c.env = pure cl)
    (h : Lc prog w S0 c t iter elt ifs scope cl names hk nd m σ fun ys σ' => ∀ a, K (.ref a) ((a, .list ys) :: σ')) (hs : ∀ x, foldedSetIterable iter c.env x = pure x := by intro _; rfl) :
    Ev prog w S0 c (.ListComp elt [⟨t, iter, ifs, 0⟩] scope pos) m σ K :=
  Op.of fun s R Q E k => by
    rw [eval_ListComp]
    exact comp_any (use := .none) hk ndc hnames hclos hs R h fun acc L ys mm σ' s' R' hK s'' R'' => k _ (.ref acc) _ s'' R'' rfl (hK acc)

/-- n = (a list comprehension), the stores exchanged -/
theorem ex_assign_comp {n : Str} {p pos pos' : Pos} {t iter elt : Expr} {ifs : List Expr} {scope : Scope} {cl : List (Str × Addr)} {names : List Str} {nd : names.Nodup} {rest : List Stmt} {K : Fl → Ms → Sto → Prop} (hk : scope.kind = .function)
    (ndc : ((cellsFrom 0 scope.names []).map (·.1)).Nodup) (hnames : ∀ x ∈ scope.names, x.2 = .local → scope.names.lookup x.1 = some .local) (hclos : closureFor scope c.env = pure cl)
    (h : Lc prog w S0 c t iter elt ifs scope cl names hk nd m σ fun ys σ' => ∀ a q, Sto1 prog w S0 (c.push q) m ((a, .list ys) :: σ') n (.ref a) fun m' σ2 => Ex prog w S0 c rest m' σ2 K)
    (hw : swapsWith (.ListComp elt [⟨t, iter, ifs, 0⟩] scope pos') (some (.Name n p)) pos.line c.env = pure true) (hs : ∀ x, foldedSetIterable iter c.env x = pure x := by intro _; rfl) :
    Ex prog w S0 c (.Assign [.Name n p] (.ListComp elt [⟨t, iter, ifs, 0⟩] scope pos') pos :: rest) m σ K :=
  Ex.of fun s R Q E k => wpAny_execs_cons (by
    rw [exec_Assign_Name_used _ _ _ _ hw]
    refine wpAny_bind (wpAny_standAt (wpAny_bind ?_))
    show wpAny _ _ (comprehension (.ListComp elt [⟨t, iter, ifs, 0⟩] scope pos') scope c.env (firstIterPos [⟨t, iter, ifs, 0⟩] pos') (newList []) false (eval iter c.env) (some (assign (.Name n p) c.env)) >>= fun _ => pure ()) _ _ _
    refine wpAny_bind (comp_any (use := some _) hk ndc hnames hclos hs R h fun acc L ys mm σ' s' R' hK => ?_)
    refine wpAny_assign_Name ((hK acc (L, .frame names mm)).get _ rfl s' (R'.perm push_perm) _ E fun m2 σ2 s2 R2 h2 => ⟨m2, σ2, R2.perm push_perm.symm, fun s'' R'' => wpAny_pure (wpAny_pure (Ex.get h2 s'' R'' Q E k))⟩))
end
end Mine
end

section
open PySem.Builtin PySem.Builtin.Str
set_option maxRecDepth 10000
namespace Mine
section
variable {prog : Program} {w : World} {S0 : Shared} {c : Cx} {m : Ms} {σ : Sto} {K : V → Sto → Prop}

theorem Cal.of {f : V} {xs : List V} (h : ∀ fv vs, Rz f fv → RzL xs vs → ∀ s, Rel S0 (c.st m σ) s → ∀ Q E, (∀ v V σ' s', Rel S0 (c.st m σ') s' → Rz V v → K V σ' → Q v s') → wpAny (model prog w) c.A (call fv vs) Q E s) : Cal prog w S0 c m σ f xs [] K :=
  fun fv vs ks hf hxs _ => Op.of fun s R Q E k => h fv vs hf hxs s R Q E k
theorem cal_bi {id : String} {xs : List V} (h : ∀ vs, RzL xs vs → ∀ s, Rel S0 (c.st m σ) s → ∀ Q E, (∀ v V σ' s', Rel S0 (c.st m σ') s' → Rz V v → K V σ' → Q v s') → wpAny (model prog w) c.A (call (.builtin id) vs) Q E s) : Cal prog w S0 c m σ (.abs (.builtin id)) xs [] K :=
  Cal.of fun fv vs hf hxs => by obtain rfl : fv = .builtin id := hf; exact h vs hxs
theorem cal_ty {T : String} {xs : List V} (h : ∀ vs, RzL xs vs → ∀ s, Rel S0 (c.st m σ) s → ∀ Q E, (∀ v V σ' s', Rel S0 (c.st m σ') s' → Rz V v → K V σ' → Q v s') → wpAny (model prog w) c.A (call (.type T) vs) Q E s) : Cal prog w S0 c m σ (.abs (.type T)) xs [] K :=
  Cal.of fun fv vs hf hxs => by obtain rfl : fv = .type T := hf; exact h vs hxs
theorem RzL.one {x : V} {vs : List Value} (h : RzL [x] vs) : ∃ v, vs = [v] ∧ Rz x v := by
  cases vs with | nil => exact h.elim | cons v vs => cases vs with | nil => exact ⟨v, rfl, h.1⟩ | cons => exact h.2.elim
theorem RzL.two {x y : V} {vs : List Value} (h : RzL [x, y] vs) : ∃ v u, vs = [v, u] ∧ Rz x v ∧ Rz y u := by
  cases vs with | nil => exact h.elim | cons v vs => obtain ⟨u, rfl, hu⟩ := RzL.one h.2; exact ⟨v, u, rfl, h.1, hu⟩
theorem RzL.three {x y z : V} {vs : List Value} (h : RzL [x, y, z] vs) : ∃ v u t, vs = [v, u, t] ∧ Rz x v ∧ Rz y u ∧ Rz z t := by
  cases vs with | nil => exact h.elim | cons v vs => obtain ⟨u, t, rfl, hu⟩ := RzL.two h.2; exact ⟨v, u, t, rfl, h.1, hu⟩
theorem Rel.keeps {τ : Sto} {s : Shared} (R : Rel S0 τ s) {h' : Heap} (k : ∀ b o, s.heap.get? b = some o → h'.get? b = some o) (t : Nat) : Rel S0 τ { s with heap := h', toks := t } := R.grow k t

def one (n : Nat) : PySem.Str := ⟨#[n]⟩
theorem cal_chr {i : Int} (h0 : 0 ≤ i) (h1 : i ≤ 0x10FFFF) (h : K (.str (one i.toNat)) σ) : Cal prog w S0 c m σ (.abs (.builtin "chr")) [.int i] [] K := cal_bi fun vs hv s R Q E k => by
  obtain ⟨v, rfl, t, rfl⟩ := hv.one
  exact P.chr_of_int (by simp; omega) (k _ (.str (one i.toNat)) _ _ (R.toks _) ⟨_, rfl⟩ h)
theorem cal_ord {n : Nat} (h : K (.int n) σ) : Cal prog w S0 c m σ (.abs (.builtin "ord")) [.str (one n)] [] K := cal_bi fun vs hv s R Q E k => by
  obtain ⟨v, rfl, t, rfl⟩ := hv.one
  exact P.ord_of_char (k _ (.int n) _ _ (R.toks _) ⟨_, rfl⟩ h)
theorem cal_len_str {x : PySem.Str} (hf : x.length < 2 ^ 63) (h : K (.int x.length) σ) : Cal prog w S0 c m σ (.abs (.builtin "len")) [.str x] [] K := cal_bi fun vs hv s R Q E k => by
  obtain ⟨v, rfl, t, rfl⟩ := hv.one
  exact P.len_str (by omega) (k _ (.int x.length) _ _ (R.toks _) ⟨_, rfl⟩ h)
theorem cal_len_list {a : Addr} {xs : List V} (ha : (a, O.list xs) ∈ c.st m σ) (hf : xs.length < 2 ^ 63) (h : K (.int xs.length) σ) : Cal prog w S0 c m σ (.abs (.builtin "len")) [.ref a] [] K := cal_bi fun vs hv s R Q E k => by
  obtain ⟨v, rfl, rfl⟩ := hv.one
  obtain ⟨us, n, hl, hz⟩ := list_at R ha
  exact call_len_list hl.isList (by rw [List.size_toArray, ← hz.length]; omega) (k _ (.int xs.length) _ _ (R.toks _) ⟨_, by rw [List.size_toArray, ← hz.length]⟩ h)
theorem cal_min2 {a b : Int} (h : K (.int (min a b)) σ) : Cal prog w S0 c m σ (.abs (.builtin "min")) [.int a, .int b] [] K := cal_bi fun vs hv s R Q E k => by
  obtain ⟨v, u, rfl, ⟨t, rfl⟩, t', rfl⟩ := hv.two
  refine min_two_ints c.hand fun h' tk hk => k _ (.int (min a b)) σ _ (R.keeps hk tk) ?_ h
  by_cases hb : b < a
  · rw [if_pos hb, show min a b = b by omega]; exact ⟨_, rfl⟩
  · rw [if_neg hb, show min a b = a by omega]; exact ⟨_, rfl⟩
theorem ints_of : ∀ {ns : List Int} {vs : List Value}, RzL (ns.map .int) vs → ∃ xs : List (Int × Tok), vs = xs.map (fun p => Value.int p.1 p.2) ∧ xs.map (·.1) = ns
  | [], [], _ => ⟨[], rfl, rfl⟩
  | [], _ :: _, h => h.elim
  | _ :: _, [], h => h.elim
  | n :: ns, v :: vs, ⟨⟨t, e⟩, h⟩ => by
    obtain ⟨xs, rfl, rfl⟩ := ints_of h
    exact ⟨(n, t) :: xs, by rw [e]; rfl, rfl⟩
theorem cal_sum {a : Addr} {ns : List Int} (ha : (a, O.list (ns.map .int)) ∈ c.st m σ) (h : K (.int ns.sum) σ) : Cal prog w S0 c m σ (.abs (.builtin "sum")) [.ref a] [] K := cal_bi fun vs hv s R Q E k => by
  obtain ⟨v, rfl, rfl⟩ := hv.one
  obtain ⟨us, n, hl, hz⟩ := list_at R ha
  obtain ⟨xs, rfl, rfl⟩ := ints_of hz
  have hl' : s.heap.IsList a (intItems xs.toArray) := by
    have := hl.isList
    rw [show (xs.map fun p => Value.int p.1 p.2).toArray = intItems xs.toArray by simp [intItems]] at this
    exact this
  refine sum_intListG c.hand hl' fun h' tk t' hk => k _ (.int (xs.map (·.1)).sum) σ _ (R.keeps hk tk) ⟨t', ?_⟩ h
  rw [preSum_eq, List.take_of_length_le (by simp)]

/- ranges -/
theorem cal_range1 {n : Int} (h : ∀ a, K (.ref a) ((a, .rng 0 n 1) :: σ)) : Cal prog w S0 c m σ (.abs (.type "range")) [.int n] [] K := cal_ty fun vs hv s R Q E k => by
  obtain ⟨v, rfl, t, rfl⟩ := hv.one
  exact call_range_1 (k _ (.ref s.heap.objs.size) _ _ (R.new (x := .rng 0 n 1) ⟨_, _, _, rfl⟩ rfl _) rfl (h _))
theorem cal_range2 {n n' : Int} (h : ∀ a, K (.ref a) ((a, .rng n n' 1) :: σ)) : Cal prog w S0 c m σ (.abs (.type "range")) [.int n, .int n'] [] K := cal_ty fun vs hv s R Q E k => by
  obtain ⟨v, u, rfl, ⟨t, rfl⟩, t', rfl⟩ := hv.two
  exact call_range_2 (k _ (.ref s.heap.objs.size) _ _ (R.new (x := .rng n n' 1) ⟨_, _, _, rfl⟩ rfl _) rfl (h _))
theorem cal_range3 {n n' d : Int} (hd : d ≠ 0) (hp : Builtin.divisionGoesByPylong (n' - n) d = false) (h : ∀ a, K (.ref a) ((a, .rng n n' d) :: σ)) : Cal prog w S0 c m σ (.abs (.type "range")) [.int n, .int n', .int d] [] K := cal_ty fun vs hv s R Q E k => by
  obtain ⟨v, u, y, rfl, ⟨t, rfl⟩, ⟨t', rfl⟩, t'', rfl⟩ := hv.three
  exact call_range_3 hd (k _ (.ref s.heap.objs.size) _ _ (R.new (x := .rng n n' d) ⟨_, _, _, rfl⟩ rfl s.toks) rfl (h _)) (.inl hp)
theorem items_of {P : Nat → Value → Prop} {acc : Array Value} {n : Nat} {f : Nat → V} (h : ItemsOf P acc n) (hf : ∀ i v, P i v → Rz (f i) v) : RzL ((List.range n).map f) acc.toList := by
  obtain ⟨hs, hi⟩ := h
  have key : ∀ (k : Nat) (vs : List Value), (∀ j v, vs[j]? = some v → Rz (f (k + j)) v) → RzL ((List.range' k vs.length).map f) vs := by
    intro k vs
    induction vs generalizing k with
    | nil => intro _; trivial
    | cons v vs ih =>
      intro hh
      refine ⟨by simpa using hh 0 v rfl, ih (k + 1) fun j u hj => ?_⟩
      have := hh (j + 1) u (by simpa using hj)
      rwa [show k + (j + 1) = k + 1 + j by omega] at this
  have := key 0 acc.toList fun j v hj => by rw [Nat.zero_add]; exact hf _ _ (hi j v (by simpa using hj))
  rw [List.range_eq_range', ← hs]
  simpa using this
theorem cal_list_range {r : Addr} {a b d : Int} {n : Nat} (hr : (r, O.rng a b d) ∈ c.st m σ) (hs : Builtin.Range.small a b d = true) (hn : Builtin.Range.rangeSize a b d = n) (hl : n ≤ 2 ^ 24)
    (h : ∀ l, K (.ref l) ((l, .list ((List.range n).map fun j : Nat => V.int (a + (j : Int) * d))) :: σ)) : Cal prog w S0 c m σ (.abs (.type "list")) [.ref r] [] K := cal_ty fun vs hv s R Q E k => by
  obtain ⟨v, rfl, rfl⟩ := hv.one
  obtain ⟨_, o, ho, t, u, x, rfl⟩ := R.objs _ hr
  refine call_list_range c.hand ho hs hn hl fun h' tk acc' c' hk hS hit => ?_
  have hz := items_of (f := fun j : Nat => V.int (a + (j : Int) * d)) hit fun i v ⟨t, e⟩ => ⟨t, e⟩
  refine k _ (.ref s.heap.objs.size) _ _ (st_new _ ?_) rfl (h _)
  have R' := R.grow hk tk
  refine ⟨R'.gens, R'.drawn, R'.os, R'.keep, ?_, fun p hp => ?_⟩
  · rw [List.map_cons, List.nodup_cons]
    refine ⟨fun hm => ?_, R'.nodup⟩
    obtain ⟨p, hp, e⟩ := List.mem_map.mp hm
    exact absurd (e ▸ R.lt hp) (Nat.lt_irrefl _)
  · rcases List.mem_cons.mp hp with rfl | hp
    · exact ⟨R.fresh, _, hS, acc'.toList, c', by simp, hz⟩
    · exact R'.objs p hp
end
end Mine
end

section
open PySem.Builtin PySem.Builtin.Str
set_option maxRecDepth 10000
namespace Mine
section
variable {prog : Program} {w : World} {S0 : Shared} {c : Cx} {m : Ms} {σ : Sto} {K : V → Sto → Prop}

theorem Mth.of {x : V} {name : PySem.Str} {K : V → List V → Sto → Prop} (h : ∀ v, Rz x v → ∀ pl s, Rel S0 (c.st m σ) s → ∀ (Q : Value × List Value → Shared → Prop) E, (∀ r f xs σ' s', Rel S0 (c.st m σ') s' → Rz f r.1 → RzL xs r.2 → K f xs σ' → Q r s') → wpAny (model prog w) c.A (getMethod v name pl) Q E s) :
    Mth prog w S0 c m σ x name K := fun v hv pl s R Q E k => h v hv pl s R Q E fun r f xs σ' s' R' h1 h2 h3 => k r (c.st m σ') s' R' ⟨f, xs, σ', h1, h2, Imp.rfl, h3⟩

theorem mth_lower {x : PySem.Str} {K : V → List V → Sto → Prop} (h : K (.abs (.builtin "str.lower")) [.str x] σ) : Mth prog w S0 c m σ (.str x) "lower" K :=
  Mth.of fun v hv pl s R Q E k => by obtain ⟨t, rfl⟩ := hv; exact GM.lower (k _ (.abs (.builtin "str.lower")) [.str x] σ s R rfl ⟨⟨t, rfl⟩, trivial⟩ h)
theorem mth_join {x : PySem.Str} {K : V → List V → Sto → Prop} (h : K (.abs (.builtin "str.join")) [.str x] σ) : Mth prog w S0 c m σ (.str x) "join" K :=
  Mth.of fun v hv pl s R Q E k => by obtain ⟨t, rfl⟩ := hv; exact GM.join (k _ (.abs (.builtin "str.join")) [.str x] σ s R rfl ⟨⟨t, rfl⟩, trivial⟩ h)
theorem mth_split {x : PySem.Str} {K : V → List V → Sto → Prop} (h : K (.abs (.builtin "str.split")) [.str x] σ) : Mth prog w S0 c m σ (.str x) "split" K :=
  Mth.of fun v hv pl s R Q E k => by obtain ⟨t, rfl⟩ := hv; exact GM.split (k _ (.abs (.builtin "str.split")) [.str x] σ s R rfl ⟨⟨t, rfl⟩, trivial⟩ h)
theorem mth_append {a : Addr} {xs : List V} {K : V → List V → Sto → Prop} (ha : (a, O.list xs) ∈ c.st m σ) (h : K (.abs (.builtin "list.append")) [.ref a] σ) : Mth prog w S0 c m σ (.ref a) "append" K :=
  Mth.of fun v hv pl s R Q E k => by
    obtain rfl : v = .ref a := hv
    obtain ⟨vs, n, hl, hz⟩ := list_at R ha
    exact getMethod_list_append hl rfl rfl (k _ (.abs (.builtin "list.append")) [.ref a] σ s R rfl ⟨rfl, trivial⟩ h)

theorem cal_lower {x : PySem.Str} (hf : x.length ≤ 5592405) (h : K (.str (Txt.lower x)) σ) : Cal prog w S0 c m σ (.abs (.builtin "str.lower")) [.str x] [] K := cal_bi fun vs hv s R Q E k => by
  obtain ⟨v, rfl, t, rfl⟩ := hv.one
  exact SCL.lower hf fun _ => k _ (.str (Txt.lower x)) _ _ (R.toks _) ⟨_, rfl⟩ h
theorem strs_of : ∀ {ys : List PySem.Str} {vs : List Value}, RzL (ys.map .str) vs → StrsAre vs ys
  | [], [], _ => .nil
  | [], _ :: _, h => h.elim
  | _ :: _, [], h => h.elim
  | y :: ys, v :: vs, ⟨⟨t, e⟩, h⟩ => by rw [e]; exact .cons y t (strs_of h)
theorem cal_join {x : PySem.Str} {a : Addr} {ys : List PySem.Str} (ha : (a, O.list (ys.map .str)) ∈ c.st m σ) (hok : (ys.map (·.length)).sum + ys.length * x.length ≤ 16777216) (h : K (.str (Txt.join x ys)) σ) :
    Cal prog w S0 c m σ (.abs (.builtin "str.join")) [.str x, .ref a] [] K := cal_bi fun vs hv s R Q E k => by
  obtain ⟨v, u, rfl, ⟨t, rfl⟩, rfl⟩ := hv.two
  obtain ⟨us, n, hl, hz⟩ := list_at R ha
  exact join_list hl.isList (strs_of hz) hok fun t' k' => k _ (.str (Txt.join x ys)) _ _ (R.toks _) ⟨_, rfl⟩ h
theorem cal_append {a : Addr} {xs : List V} {x : V} {σ' : Sto} (hu : Upd a (.list xs) (.list (xs ++ [x])) σ σ') (hs : xs.length ≤ sizeLine) (h : K .none σ') : Cal prog w S0 c m σ (.abs (.builtin "list.append")) [.ref a, x] [] K := cal_bi fun vs hv s R Q E k => by
  obtain ⟨v, u, rfl, rfl, hu'⟩ := hv.two
  obtain ⟨us, n, hl, hz⟩ := list_at R (mem_st hu.mem)
  refine wpAny_list_append_plain ⟨n, hl⟩ (fun h' ⟨n', hl'⟩ hsb => k _ .none σ' _ ?_ rfl h) (by rw [List.size_toArray, ← hz.length]; exact hs)
  have U : Upd a (.list xs) (.list (xs ++ [x])) (c.st m σ) (c.st m σ') := .tail (hu.app _)
  exact Rel.put U R hsb hl' ⟨us ++ [u], n', by simp, hz.snoc hu'⟩ s.toks

/- is -/
theorem cmp_is_none {x : V} {b : Bool} (hb : ∀ v, Rz x v → (v == .none) = b) (h : K (.bool b) σ) : Cmp prog w S0 c m σ .Is x .none K := by
  rintro v _ hv rfl; exact Op.of fun s R Q E k => is_none_gen (by rw [hb v hv]; exact k _ (.bool b) σ s R rfl h)
theorem cmp_isnot_none {x : V} {b : Bool} (hb : ∀ v, Rz x v → (!(v == .none)) = b) (h : K (.bool b) σ) : Cmp prog w S0 c m σ .IsNot x .none K := by
  rintro v _ hv rfl; exact Op.of fun s R Q E k => isnot_none_gen (by rw [hb v hv]; exact k _ (.bool b) σ s R rfl h)
theorem nn_str {x : PySem.Str} : ∀ v, Rz (.str x) v → (!(v == .none)) = true := by rintro _ ⟨t, rfl⟩; rfl
theorem nn_ref {a : Addr} : ∀ v, Rz (.ref a) v → (!(v == .none)) = true := by rintro _ rfl; rfl
theorem nn_none : ∀ v, Rz .none v → (!(v == .none)) = false := by rintro _ rfl; rfl
theorem cmp_is_ty {X Y : String} (h : K (.bool (Value.type X == Value.type Y)) σ) : Cmp prog w S0 c m σ .Is (.abs (.type X)) (.abs (.type Y)) K := by
  rintro _ _ rfl rfl; exact Op.of fun s R Q E k => wpAny_pure (a := Value.bool (Value.type X == Value.type Y)) (k _ (.bool _) σ s R rfl h)
theorem cmp_isnot_ty {X Y : String} (h : K (.bool (!(Value.type X == Value.type Y))) σ) : Cmp prog w S0 c m σ .IsNot (.abs (.type X)) (.abs (.type Y)) K := by
  rintro _ _ rfl rfl; exact Op.of fun s R Q E k => isnot_type (k _ (.bool _) σ s R rfl h)
theorem cal_type_str {x : PySem.Str} (h : K (.abs (.type "str")) σ) : Cal prog w S0 c m σ (.abs (.type "type")) [.str x] [] K := cal_ty fun vs hv s R Q E k => by
  obtain ⟨v, rfl, t, rfl⟩ := hv.one
  exact call_type_of (typeIs_str _ _ _) (by decide) (k _ (.abs (.type "str")) σ s R rfl h)
theorem cal_type_list {a : Addr} {xs : List V} (ha : (a, O.list xs) ∈ c.st m σ) (h : K (.abs (.type "list")) σ) : Cal prog w S0 c m σ (.abs (.type "type")) [.ref a] [] K := cal_ty fun vs hv s R Q E k => by
  obtain ⟨v, rfl, rfl⟩ := hv.one
  obtain ⟨us, n, hl, hz⟩ := list_at R ha
  obtain ⟨hh, g, d, t, os⟩ := s
  exact call_type_obj hl rfl (k _ (.abs (.type "list")) σ _ R rfl h)

/- in a list -/
theorem cmp_in_ints {a : Addr} {ns : List Int} {i : Int} (ha : (a, O.list (ns.map .int)) ∈ c.st m σ) (h : K (.bool (ns.contains i)) σ) : Cmp prog w S0 c m σ .In (.int i) (.ref a) K := by
  rintro _ _ ⟨t, rfl⟩ rfl
  refine Op.of fun s R Q E k => ?_
  obtain ⟨us, n, hl, hz⟩ := list_at R ha
  obtain ⟨xs, rfl, rfl⟩ := ints_of hz
  refine SeqRoads2.in_list (fun y => match y with | .int j _ => j == i | _ => false) (fun y hy => ?_) hl (k _ (.bool _) σ s R ?_ h)
  · obtain ⟨p, hp, rfl⟩ := List.mem_map.mp (Array.mem_toList_iff.mpr hy)
    exact MeetsSeq.EqGives.int _ _ _ _
  · show Value.bool _ = Value.bool _
    rw [List.any_toArray, List.any_map, List.contains_eq_any_beq, List.any_map]
    congr 2
    funext p
    show (p.1 == i) = (i == p.1)
    rw [Bool.eq_iff_iff, beq_iff_eq, beq_iff_eq]
    exact eq_comm
theorem cps_beq (x y : PySem.Str) : (x.cps.toList == y.cps.toList) = (x == y) := by
  rw [Bool.eq_iff_iff]
  simp only [beq_iff_eq]
  constructor
  · intro h; cases x; cases y; congr 1; exact Array.toList_inj.mp h
  · rintro rfl; rfl
theorem cmp_in_strs {a : Addr} {ys : List PySem.Str} {x : PySem.Str} (ha : (a, O.list (ys.map .str)) ∈ c.st m σ) (h : K (.bool (ys.contains x)) σ) : Cmp prog w S0 c m σ .In (.str x) (.ref a) K := by
  rintro _ _ ⟨t, rfl⟩ rfl
  refine Op.of fun s R Q E k => ?_
  obtain ⟨us, n, hl, hz⟩ := list_at R ha
  obtain ⟨l, rfl, rfl⟩ := strsAre_values (strs_of hz)
  refine SeqRoads2.in_list (fun y => match y with | .str j _ => j.cps.toList == x.cps.toList | _ => false) (fun y hy => ?_) hl (k _ (.bool _) σ s R ?_ h)
  · unfold strValues at hy
    obtain ⟨p, hp, rfl⟩ := List.mem_map.mp (Array.mem_toList_iff.mpr hy)
    exact SeqRoads2.EqGives.str _ _ _ _
  · show Value.bool _ = Value.bool _
    unfold strValues
    rw [List.any_toArray, List.any_map, List.contains_eq_any_beq, List.any_map]
    congr 2
    funext p
    show (p.1.cps.toList == x.cps.toList) = (x == p.1)
    rw [cps_beq, Bool.eq_iff_iff, beq_iff_eq, beq_iff_eq]
    exact eq_comm

/- storing an item -/
theorem IsL.setItem {A : Around} {E : Value → Shared → Prop} {s : Shared} {l : Addr} {items : Array Value} {n : Nat} {k : Int} {t : Tok} {v : Value} {Q : Unit → Shared → Prop} (hl : IsL s.heap l items n)
    (h0 : 0 ≤ k) (hfit : k < 2 ^ 63) (hn : k < items.size)
    (hQ : ∀ h' n', IsL h' l (items.setIfInBounds k.toNat v) n' → Heap.SameBut l s.heap h' → Q () { s with heap := h' }) : wpAny (model prog w) A (PySem.setItem (.ref l) (.int k t) v) Q E s := by
  have hl' := hl.isList
  unfold PySem.setItem
  try with_reducible refine wpAny_holding ?_
  first | refine wpAny_bind (wpAny_pure ?_) | skip
  refine wpAny_bind (wpAny_sequenceKey hl'.typeIs (by decide) ?_)
  refine wpAny_bind (wpAny_callSpecial?_slot (name := Str.ofString "__setitem__") hl'.typeIs slot_list_setitem
    (wpAny_call_entry slot_list_setitem hl'.typeIs entry_list_setitem ?_ (args_list_setitem _ _ _)))
  show wpAny _ _ (Builtin.List.listSubscript? (.int k t) >>= _) _ _ s
  refine wpAny_bind (wpAny_listSubscript_int (fitsIndex_of h0 hfit) ?_)
  clear hfit
  obtain ⟨j, rfl⟩ := Int.eq_ofNat_of_zero_le h0
  have hj : j < items.size := by omega
  have hx' : items[j]? = some items[j] := Array.getElem?_eq_getElem hj
  show wpAny _ _ ((seqItemAt l j >>= fun r => pure (r.map (j, ·))) >>= _) _ _ s
  refine wpAny_bind (wpAny_bind (wpAny_seqItemAt hl rfl (wpAny_pure ?_)))
  rw [hx']
  show wpAny _ _ (setSeqItemAt l j v >>= _) _ _ s
  refine wpAny_bind (wpAny_setSeqItemAt hl rfl ?_)
  exact wpAny_bind (wpAny_pure (wpAny_pure ⟨.none, rfl, wpAny_pure (hQ _ _ (hl.update (·.setIfInBounds j v)) (Heap.SameBut.update ..))⟩))
theorem RzL.set {xs : List V} {vs : List Value} {x : V} {v : Value} (h : RzL xs vs) (hx : Rz x v) : ∀ i, RzL (xs.set i x) (vs.set i v) := by
  induction xs generalizing vs with
  | nil => cases vs with | nil => intro i; trivial | cons => exact h.elim
  | cons y ys ih => cases vs with
    | nil => exact h.elim
    | cons u us => intro i; cases i with
      | zero => exact ⟨hx, h.2⟩
      | succ i => exact ⟨h.1, ih h.2 i⟩
end
end Mine
end

section
set_option maxRecDepth 10000
namespace Mine
section
variable {prog : Program} {w : World} {S0 : Shared} {c : Cx} {m : Ms} {σ : Sto} {K : V → Sto → Prop}

/- lists compared -/
theorem range_all_eq {α : Type} [BEq α] [LawfulBEq α] : ∀ {xs ys : List α}, xs.length = ys.length → ((List.range xs.length).all fun j => xs[j]? == ys[j]?) = (xs == ys) := by
  intro xs ys h
  rw [Bool.eq_iff_iff, List.all_eq_true, beq_iff_eq]
  constructor
  · intro hh
    refine List.ext_getElem? fun j => ?_
    rcases Nat.lt_or_ge j xs.length with hj | hj
    · exact eq_of_beq (hh j (List.mem_range.mpr hj))
    · rw [List.getElem?_eq_none hj, List.getElem?_eq_none (h ▸ hj)]
  · rintro rfl j _; exact beq_self_eq_true _
theorem len_ne {α : Type} [BEq α] [LawfulBEq α] {xs ys : List α} (h : xs.length ≠ ys.length) : (xs == ys) = false := beq_eq_false_iff_ne.mpr fun e => h (e ▸ rfl)

theorem lists_eq {α : Type} [BEq α] [LawfulBEq α] (f : α → V) (hf : ∀ A s x y v u, Rz (f x) v → Rz (f y) u → SeqAt.EqAt A s v u (x == y)) {A : Around} {s : Shared} {a b : Addr} {xs ys : List α} {vs us : List Value} {n k : Nat}
    (hl : IsL s.heap a vs.toArray n) (hb : IsL s.heap b us.toArray k) (hz : RzL (xs.map f) vs) (hz' : RzL (ys.map f) us) (hu : A.units < cLine) :
    SeqAt.RcAt A s (.ref a) (.ref b) (xs == ys) ∧ SeqAt.RcNeAt A s (.ref a) (.ref b) (!(xs == ys)) := by
  have l1 : vs.length = xs.length := by simpa using hz.length.symm
  have l2 : us.length = ys.length := by simpa using hz'.length.symm
  by_cases h : xs.length = ys.length
  · have he : ∀ j (h1 : j < vs.toArray.size) (h2 : j < us.toArray.size), SeqAt.EqAt A.in1 s vs.toArray[j] us.toArray[j] (xs[j]? == ys[j]?) := fun j h1 h2 => by
      simp only [List.size_toArray] at h1 h2
      have g1 : (xs.map f)[j]? = some (f xs[j]) := by simp [List.getElem?_eq_getElem (l1 ▸ h1)]
      have g2 : (ys.map f)[j]? = some (f ys[j]) := by simp [List.getElem?_eq_getElem (l2 ▸ h2)]
      obtain ⟨v, hv, hvz⟩ := hz.get g1
      obtain ⟨u, hu, huz⟩ := hz'.get g2
      rw [List.getElem?_eq_getElem h1] at hv
      rw [List.getElem?_eq_getElem h2] at hu
      cases hv; cases hu
      have := hf A.in1 s xs[j] ys[j] _ _ hvz huz
      rw [List.getElem?_eq_getElem (l1 ▸ h1), List.getElem?_eq_getElem (l2 ▸ h2)]
      simpa using this
    have e := range_all_eq h
    rw [← l1] at e
    constructor
    · have := SeqAt.RcAt.lists hl.isList hb.isList (by simp [l1, l2, h]) hu he
      rw [List.size_toArray, e] at this; exact this
    · have := SeqAt.RcNeAt.lists hl.isList hb.isList (by simp [l1, l2, h]) hu he
      rw [List.size_toArray, e] at this; exact this
  · have hs : (vs.toArray.size != us.toArray.size) = true := by simp [l1, l2, h]
    rw [len_ne h]
    exact ⟨SeqAt.RcAt.lists_lengths hl.isList hb.isList hs hu, SeqAt.RcNeAt.lists_lengths hl.isList hb.isList hs hu⟩
theorem eqat_int (A : Around) (s : Shared) (x y : Int) (v u : Value) (h : Rz (.int x) v) (h' : Rz (.int y) u) : SeqAt.EqAt A s v u (x == y) := by
  obtain ⟨t, rfl⟩ := h; obtain ⟨t', rfl⟩ := h'; exact SeqAt.EqAt.int_int _ _ _ _
theorem eqat_str (A : Around) (s : Shared) (x y : Str) (v u : Value) (h : Rz (.str x) v) (h' : Rz (.str y) u) : SeqAt.EqAt A s v u (x == y) := by
  obtain ⟨t, rfl⟩ := h; obtain ⟨t', rfl⟩ := h'; exact SeqAt.EqAt.str_str _ _ _ _

theorem cmp_leq {α : Type} [BEq α] [LawfulBEq α] (f : α → V) (hf : ∀ A s x y v u, Rz (f x) v → Rz (f y) u → SeqAt.EqAt A s v u (x == y)) {a b : Addr} {xs ys : List α} (ha : (a, O.list (xs.map f)) ∈ c.st m σ) (hb : (b, O.list (ys.map f)) ∈ c.st m σ) (hu : c.A.units < cLine)
    (h : K (.bool (xs == ys)) σ) : Cmp prog w S0 c m σ .Eq (.ref a) (.ref b) K := by
  rintro _ _ rfl rfl
  refine Op.of fun s R Q E k => ?_
  obtain ⟨vs, n, hl, hz⟩ := list_at R ha
  obtain ⟨us, n', hl', hz'⟩ := list_at R hb
  exact EqBoolInt.of_rc (lists_eq f hf hl hl' hz hz' hu).1 (k _ (.bool _) σ s R rfl h)
theorem cmp_lne {α : Type} [BEq α] [LawfulBEq α] (f : α → V) (hf : ∀ A s x y v u, Rz (f x) v → Rz (f y) u → SeqAt.EqAt A s v u (x == y)) {a b : Addr} {xs ys : List α} (ha : (a, O.list (xs.map f)) ∈ c.st m σ) (hb : (b, O.list (ys.map f)) ∈ c.st m σ) (hu : c.A.units < cLine)
    (h : K (.bool (!(xs == ys))) σ) : Cmp prog w S0 c m σ .NotEq (.ref a) (.ref b) K := by
  rintro _ _ rfl rfl
  refine Op.of fun s R Q E k => ?_
  obtain ⟨vs, n, hl, hz⟩ := list_at R ha
  obtain ⟨us, n', hl', hz'⟩ := list_at R hb
  exact EqBoolInt.of_rcne (lists_eq f hf hl hl' hz hz' hu).2 (k _ (.bool _) σ s R rfl h)

/-- `__debug__` -/
theorem ev_debug {p : Pos} (h : K (.bool true) σ) : Ev prog w S0 c (.Name "__debug__" p) m σ K :=
  Op.of fun s R Q E k => by
    show wpAny _ _ (standAt p >>= fun _ => if (("__debug__" : Str) == ("__debug__" : Str)) = true then debugConstant else loadName c.env "__debug__") _ _ _
    refine wpAny_bind (wpAny_standAt ?_)
    rw [if_pos (by decide)]
    exact wpAny_bind (wpAny_rule (wpAny_pure (k _ (.bool true) σ s R rfl h)))

/-- l[i] = e -/
theorem ex_setitem {o i e : Expr} {p pos : Pos} {rest : List Stmt} {K : Fl → Ms → Sto → Prop}
    (h : Ev prog w S0 c e m σ fun x σ1 => Ev prog w S0 c o m σ1 fun y σ2 => Ev prog w S0 c i m σ2 fun z σ3 => ∃ a xs j σ4, y = .ref a ∧ z = .int j ∧ 0 ≤ j ∧ j < xs.length ∧ xs.length < 2 ^ 63 ∧
      Upd a (.list xs) (.list (xs.set j.toNat x)) σ3 σ4 ∧ Ex prog w S0 c rest m σ4 K)
    (hs : swapsWith e (some (.Subscript o i p)) pos.line c.env = pure false := by rfl) : Ex prog w S0 c (.Assign [.Subscript o i p] e pos :: rest) m σ K :=
  Ex.of fun s R Q E k => wpAny_execs_cons (wpAny_Assign_Subscript (Op.get h s R _ E fun v x σ1 s1 R1 hx h1 => Op.get h1 s1 R1 _ E fun u y σ2 s2 R2 hy h2 => Op.get h2 s2 R2 _ E fun t z σ3 s3 R3 hz h3 => by
    obtain ⟨a, xs, j, σ4, rfl, rfl, h0, hj, hl, hu, hk⟩ := h3
    obtain rfl : u = .ref a := hy
    obtain ⟨tk, rfl⟩ := hz
    obtain ⟨vs, n, hls, hzs⟩ := list_at R3 (mem_st hu.mem)
    refine IsL.setItem hls h0 (by omega) (by rw [List.size_toArray, ← hzs.length]; exact hj) fun h' n' hl' hsb => ?_
    have U : Upd a (.list xs) (.list (xs.set j.toNat x)) (c.st m σ3) (c.st m σ4) := .tail (hu.app _)
    exact Ex.get hk _ (Rel.put U R3 hsb hl' ⟨vs.set j.toNat v, n', by simp, hzs.set hx _⟩ s3.toks) Q E k) hs)

/- iter, next -/
theorem cal_iter {a : Addr} {xs : List V} (ha : (a, O.list xs) ∈ c.st m σ) (h : ∀ it, K (.ref it) ((it, .liter a 0) :: σ)) : Cal prog w S0 c m σ (.abs (.builtin "iter")) [.ref a] [] K := cal_bi fun vs hv s R Q E k => by
  obtain ⟨v, rfl, rfl⟩ := hv.one
  obtain ⟨us, n, hl, hz⟩ := list_at R ha
  refine call_function_entry (by decide +kernel) (by decide +kernel) PySem.W.kdk_entry_iter (PySem.W.kdk_args_iter _) ?_
  unfold Builtin.«iter»
  refine wpAny_bind (m := someArgs "iter" 1 2 _) (wpAny_of_eq (a := [Value.ref a]) (by first | rfl | kernel_rfl!) ?_)
  show wpAny _ _ (pyIter (.ref a) >>= _) _ _ _
  refine wpAny_bind (wpAny_pyIter_list hl.isList ?_)
  exact wpAny_pure ⟨_, rfl, k _ (.ref s.heap.objs.size) _ _ (R.new (x := .liter a 0) ⟨rfl, rfl⟩ rfl s.toks) rfl (h _)⟩
theorem cal_next {it a : Addr} {xs : List V} {i : Nat} {x : V} {σ' : Sto} (ha : (a, O.list xs) ∈ c.st m σ) (hu : Upd it (.liter a i) (.liter a (i + 1)) σ σ') (hx : xs[i]? = some x) (h : K x σ') : Cal prog w S0 c m σ (.abs (.builtin "next")) [.ref it] [] K := cal_bi fun vs hv s R Q E k => by
  obtain ⟨v, rfl, rfl⟩ := hv.one
  obtain ⟨us, n, hl, hz⟩ := list_at R ha
  obtain ⟨y, hy, hyz⟩ := hz.get hx
  obtain ⟨_, o, ho, hc, hd⟩ := R.objs _ (mem_st hu.mem)
  have hit : s.heap.IsListIter it a i := ⟨o, ho, hc, hd⟩
  refine call_function_entry (by decide +kernel) (by decide +kernel) PySem.W.kdk_entry_next (PySem.W.kdk_args_next _) ?_
  unfold Builtin.«next»
  refine wpAny_bind (m := someArgs "next" 1 2 _) (wpAny_of_eq (a := [Value.ref it]) (by first | rfl | kernel_rfl!) ?_)
  dsimp only
  refine wpAny_bind (wpAny_specialOf (name := Str.ofString "__next__") hit.typeIs slot_listiter_next.lookup ?_)
  refine wpAny_ite_split (fun hab => absurd hab (by decide)) (fun _ => ?_)
  obtain ⟨ol, hol, _, nl, hdl⟩ := hl.isList
  refine wpAny_bind (wpAny_callSpecial?_slot (name := Str.ofString "__next__") hit.typeIs slot_listiter_next
    (wpAny_call_entry slot_listiter_next hit.typeIs entry_listiter_next ?_ (args_listiter_next _)))
  show wpAny _ _ (field (.ref it) 0 >>= _) _ _ s
  refine wpAny_bind (wpAny_field ho hd (x := .ref a) rfl ?_)
  show wpAny _ _ (if (Value.ref a == Value.none) = true then _ else _) _ _ s
  rw [if_neg (show ¬ ((Value.ref a == Value.none) = true) from Bool.false_ne_true)]
  show wpAny _ _ (field (.ref it) 1 >>= _) _ _ s
  refine wpAny_bind (wpAny_field ho hd (x := .int i 0) rfl ?_)
  show wpAny _ _ (seqItems? (.ref a) >>= _) _ _ s
  refine wpAny_bind (wpAny_seqItems hol hdl ?_)
  have hy' : us.toArray[i]? = some y := by simpa using hy
  simp only [Int.toNat_natCast, hy']
  refine wpAny_bind (wpAny_setField ho hd (by simp) (wpAny_pure ⟨y, rfl, wpAny_pure ⟨_, rfl, ?_⟩⟩))
  have U : Upd it (.liter a i) (.liter a (i + 1)) (c.st m σ) (c.st m σ') := .tail (hu.app _)
  refine k _ x σ' _ (Rel.put U R (Heap.SameBut.update ..) (Heap.get?_update_self _ ho (Obj.isFreed_of_fields (Obj.data_mapFields hd _))) ⟨(Obj.cls_mapFields ..).trans hc, ?_⟩ s.toks) hyz h
  rw [Obj.data_mapFields hd]; simp [rawInt]
end
end Mine
end

section
set_option maxRecDepth 100000
namespace Mine
section
variable {prog : Program} {w : World} {S0 : Shared} {c : Cx} {m : Ms} {σ : Sto} {K : V → Sto → Prop}

theorem walks_end {A : Around} (hh : A.handled = .none) (it l : Addr) (hne : l ≠ it) (items : Array Value) : Walks prog w A it [it, l] [it] 0 (fun _ _ => False) (fun _ h => h.IsListIter it l items.size ∧ h.IsList l items) where
  sub := fun b hb => by simp at hb; simp [hb]
  frame := fun _ _ _ st hk => ⟨st.1.at fun o e => hk it (by simp) o e, st.2.at fun o e => hk l (by simp) o e⟩
  item := fun i s Q E hi => absurd hi (Nat.not_lt_zero _)
  done := fun s Q E st hQ => wpAny_pyNext_list_end hh st.1 st.2 (by simp) fun h' he' => hQ h' s.toks fun b o hb e => he' b o (fun h => hb (by simp [h])) e
  self := fun _ _ _ _ st hQ => wpAny_pyIter_listiter st.1 hQ

theorem extend_end {A : Around} {s : Shared} {R : Result → Shared → Prop} {it l : Addr} {items : Array Value} (hh : A.handled = .none) (hit : s.heap.IsListIter it l items.size) (hl : s.heap.IsList l items) (hne : l ≠ it) (S : Addr) (res : Value) (c₀ : Nat)
    (hS : s.heap.get? S = some { cls := .type "list", data := .seq #[] c₀ }) (hSl : S ≠ l)
    (hR : ∀ h' tk acc' c', (∀ b o, b ≠ S → b ≠ it → s.heap.get? b = some o → h'.get? b = some o) → h'.get? S = some { cls := .type "list", dict := none, data := .seq acc' c', slots := #[] } → acc' = #[] → R (.ok (.ret res)) { s with heap := h', toks := tk }) :
    wpAny (model prog w) A.in1 (Builtin.List.listExtendWith (.ref S) (.ref it) res)
      (fun fin s' => match fin with | .done f => R (.ok f) s' | .again c' => c'.quiet = true ∧ codeAny (model prog w) A c' R s') (fun e s' => R (.error e) s') s := by
  have hSit : S ≠ it := fun e => by obtain ⟨o, ho, hc, hd⟩ := hit; rw [e, ho] at hS; cases hS; cases hd
  have hSf : S ∉ [it, l] := by simp [hSit, hSl]
  have W := (walks_end (prog := prog) (w := w) (A := A.in1) hh it l hne items).toS
  have T : s.TypeIs (.ref it) "list_iterator" := hit.typeIs
  unfold Builtin.List.listExtendWith
  refine wpAny_bind (wpAny_typeOf T ?_)
  have h1 : Builtin.List.listSameRef (.ref S) (.ref it) = false := by simp [Builtin.List.listSameRef, hSit]
  have h2 : (Value.type "list_iterator" == Value.type "list") = false := by decide
  have h3 : (Value.type "list_iterator" == Value.type "tuple") = false := by decide
  simp only [h1, h2, h3, Bool.or_false, Bool.false_eq_true, if_false]
  refine wpAny_bind (wpAny_pyIter_listiter hit ?_)
  refine wpAny_bind (wpAny_holding ?_)
  unfold Builtin.List.listLengthHint
  refine wpAny_bind (wpAny_specialOf T F.nolen_li ?_)
  show wpAny _ A.in1 (specialOf (Value.ref it) (Str.ofString "__length_hint__") >>= _) _ _ _
  refine wpAny_bind (wpAny_specialOf T F.hint_li ?_)
  generalize hid : ("list_iterator.__length_hint__" : String) = id0
  wp_delta
  rw [show splitId id0 = some ("list_iterator", "__length_hint__") from by subst hid; decide +kernel]
  subst hid
  refine wpAny_bind (wpAny_isInstance (b := true) T (by rw [isSubtype_type]; kernel_rfl) ?_)
  refine wpAny_pure ?_
  rw [if_neg (by decide)]
  refine wpAny_pure ⟨plainId_quiet F.plain_extend_loop _, codeAny_extend_loopS W (by decide) S hSf res 0 0 _ #[] c₀ rfl (Nat.zero_le _) ⟨hit, hl⟩ hS (ItemsOf.nil _) fun s' acc' c' hm hS' hacc => ?_⟩
  rw [Moved.eq_with hm]
  refine hR s'.heap s'.toks acc' c' (fun b o hb hbi e => hm.heap b o (fun hmem => ?_) e) hS' (Array.eq_empty_of_size_eq_zero hacc.1)
  rcases List.mem_cons.mp hmem with e' | hmem
  · exact hb e'
  · exact hbi (List.mem_singleton.mp hmem)

inductive Del (a : Addr) (x : O) : Sto → Sto → Prop
  | head {σ : Sto} : Del a x ((a, x) :: σ) σ
  | tail {p : Addr × O} {σ σ' : Sto} : Del a x σ σ' → Del a x (p :: σ) (p :: σ')
theorem Del.perm {a : Addr} {x : O} {σ σ' : Sto} (h : Del a x σ σ') : σ.Perm ((a, x) :: σ') := by
  induction h with
  | head => exact .refl _
  | tail _ ih => exact (List.Perm.cons _ ih).trans (List.Perm.swap ..)
theorem Del.sub {a : Addr} {x : O} {σ σ' : Sto} (h : Del a x σ σ') : σ'.Sublist σ := by
  induction h with
  | head => exact List.sublist_cons_self _ _
  | tail _ ih => exact .cons_cons _ ih
theorem Del.st {a : Addr} {x : O} {σ σ' : Sto} (h : Del a x σ σ') : Del a x (c.st m σ) (c.st m σ') := by
  refine .tail ?_
  induction c.F with
  | nil => exact h
  | cons p F ih => exact .tail ih

/-- list(an iterator that is at its end) -/
theorem cal_list_liter {it l : Addr} {xs : List V} (hl : (l, O.list xs) ∈ c.st m σ) {σ' : Sto} (hdel : Del it (.liter l xs.length) σ σ') (h : ∀ a, K (.ref a) ((a, .list []) :: σ')) :
    Cal prog w S0 c m σ (.abs (.type "list")) [.ref it] [] K := cal_ty fun vs hv s R Q E k => by
  obtain ⟨v, rfl, rfl⟩ := hv.one
  obtain ⟨us, n, hls, hz⟩ := list_at R hl
  have hi : (it, O.liter l xs.length) ∈ σ := hdel.perm.symm.subset (.head _)
  have hσ := hdel.sub
  have hn : it ∉ ((c.st m σ').map (·.1)) := (List.nodup_cons.mp (R.perm (hdel.st (c := c) (m := m)).perm).nodup).1
  obtain ⟨_, o, ho, hc, hd⟩ := R.objs _ (mem_st hi)
  have hit : s.heap.IsListIter it l us.toArray.size := ⟨o, ho, hc, by rw [List.size_toArray, ← hz.length]; exact hd⟩
  have hne : l ≠ it := fun e => by subst e; rw [hls] at ho; cases ho; cases hd
  refine callType_codes (Q₁ := fun obj s₁ => obj = .ref s.heap.objs.size ∧ s₁ = { s with heap := s.heap.push { cls := .type "list", data := .seq #[] } }) F.called_list (F.typeCall_list_1 _) F.entry_list_init
    (code_list_new _ ⟨rfl, rfl⟩) fun obj s₁ h₁ => ?_
  obtain ⟨rfl, rfl⟩ := h₁
  have hS : (s.heap.push { cls := .type "list", data := .seq #[] }).get? s.heap.objs.size = some { cls := .type "list", data := .seq #[] } := Heap.get?_push_size _ rfl
  have lt1 : it < s.heap.objs.size := Heap.lt_size ho
  have lt2 : l < s.heap.objs.size := Heap.lt_size hls
  refine ⟨⟨_, hS, rfl⟩, F.args_list_init_2 _ _, ?_⟩
  show wpAny _ _ (do let old ← Builtin.List.listItems (.ref s.heap.objs.size); Builtin.List.listUpdate (.ref s.heap.objs.size) (fun _ => #[]); letGo old.toList.reverse; Builtin.List.listExtendWith (.ref s.heap.objs.size) (.ref it) .none) _ _ _
  refine wpAny_bind ?_
  unfold Builtin.List.listItems
  refine wpAny_bind (wpAny_seqItems hS rfl (wpAny_pure ?_))
  show wpAny _ _ (updateSeq s.heap.objs.size (fun _ => #[]) >>= fun _ => letGo (#[] : Array Value).toList.reverse >>= fun _ => Builtin.List.listExtendWith (.ref s.heap.objs.size) (.ref it) .none) _ _ _
  refine wpAny_bind (wpAny_updateSeq hS rfl ?_)
  have hS₂ := Heap.get?_update_self (Obj.mapSeq (fun _ => (#[] : Array Value))) hS rfl
  have oth : ∀ b o, b ≠ s.heap.objs.size → s.heap.get? b = some o → ((s.heap.push { cls := .type "list", data := .seq #[] }).update s.heap.objs.size (Obj.mapSeq (fun _ => (#[] : Array Value)))).get? b = some o :=
    fun b o hb e => (Heap.get?_update_other _ _ (Ne.symm hb)).trans (Heap.get?_push_of_some _ e)
  refine wpAny_bind (wpAny_letGo ?_)
  refine extend_end (A := c.A.in1) c.hand (hit.at fun o e => oth _ o (Nat.ne_of_lt lt1) e) (hls.isList.at fun o e => oth _ o (Nat.ne_of_lt lt2) e) hne _ .none _ hS₂ (Nat.ne_of_gt lt2) fun h' tk acc' c' hk hS' hacc => ?_
  subst hacc
  refine ⟨rfl, k _ (.ref s.heap.objs.size) ((_, .list []) :: σ') _ (st_new _ ?_) rfl (h _)⟩
  have R1 : Rel S0 (c.st m σ') s := R.sub (.cons_cons _ (.append (.refl _) hσ))
  have hSi : S0.heap.get? it = .none := (R.objs _ (mem_st hi)).1
  have keep : ∀ b o, b ≠ it → s.heap.get? b = some o → h'.get? b = some o := fun b o hb e => hk b o (Nat.ne_of_lt (Heap.lt_size e)) hb (oth b o (Nat.ne_of_lt (Heap.lt_size e)) e)
  refine ⟨R1.gens, R1.drawn, R1.os, fun b o e => keep b o (fun q => by rw [q, hSi] at e; cases e) (R1.keep b o e), ?_, fun p hp => ?_⟩
  · rw [List.map_cons, List.nodup_cons]
    refine ⟨fun hm => ?_, R1.nodup⟩
    obtain ⟨p, hp, e⟩ := List.mem_map.mp hm
    exact absurd (e ▸ R1.lt hp) (Nat.lt_irrefl _)
  · rcases List.mem_cons.mp hp with rfl | hp
    · exact ⟨R.fresh, _, hS', [], c', rfl, trivial⟩
    · obtain ⟨q, ob, hob, hor⟩ := R1.objs p hp
      exact ⟨q, ob, keep _ _ (fun e => hn (e ▸ List.mem_map_of_mem hp)) hob, hor⟩
end
end Mine
end

section
open PySem.Builtin PySem.Builtin.Re PySem.Sre
set_option maxRecDepth 100000
namespace Mine

theorem re_plain : PlainAttrs "re.Pattern" :=
  ⟨⟨"object.__getattribute__", by rw [typeLookup_type, builtinLookup_eq_fast]; kernel_rfl, by decide +kernel⟩, by rw [typeLookup_type, builtinLookup_eq_fast]; kernel_rfl⟩
theorem re_owner : Manifest.owners.lookup (String.ofList ['n', 'r', 'e', 't', 't', 'a', 'P', '.', 'e', 'r'].reverse) = some Manifest.sig_re_Pattern := by kernel_rfl
theorem re_slot : Slot "re.Pattern" "search" "re.Pattern.search" :=
  .of (owner := "re.Pattern") (n := "search") (by rw [typeLookup_type, builtinLookup_eq_fast]; kernel_rfl) (by decide +kernel) (by decide +kernel) (by decide +kernel)
    (by first | exact .inl (by decide +kernel) | exact .inr (by decide +kernel)) (by rw [isSubtype_type]; kernel_rfl)
theorem re_type : typeOf (.builtin "re.Pattern.search") = pure (.type "method_descriptor") := by show builtinType _ = _; rw [builtinType_eq_fast]; kernel_rfl
theorem re_entry : entryFor table "re.Pattern.search" = some Builtin.«re.Pattern.search» := entryFor_of_tree (by kernel_rfl)
theorem re_args (a b : Value) : argsOk "re.Pattern.search" ⟨[a, b], []⟩ := by
  unfold argsOk; rw [signature?_of (id := "re.Pattern.search") (n := ['h', 'c', 'r', 'a', 'e', 's']) (o := ['n', 'r', 'e', 't', 't', 'a', 'P', '.', 'e', 'r']) (by kernel_rfl) re_owner]; kernel_rfl
theorem re_named (x : Value) : reNamed "re.Pattern.search" "search" ["string", "pos", "endpos"] 1 [x] [] = pure [some x, .none, .none] := by kernel_rfl

/-- the set at the head of a code takes none of these -/
def Unmet (code : Array Nat) (text : Array Nat) : Prop := ∀ c ∈ text, ∀ seen, ∃ seen', inSet code c code.size 5 true seen = .ok (false, seen')
def Head4 (code : Array Nat) : Prop := (match ops[code.getD 0 0]? with | some .INFO => true | _ => false) = true ∧ code.getD 2 0 = 4 ∧ code.getD 3 0 = 1

theorem admitted_none (m : M) (h : Unmet m.code m.text) (hl : m.lim ≤ m.text.size) : ∀ fuel s seen, ∃ seen', M.admitted m fuel s seen = .ok (.none, seen')
  | 0, _, seen => ⟨seen, rfl⟩
  | fuel + 1, s, seen => by
    unfold M.admitted
    by_cases hs : s ≥ m.lim
    · rw [if_pos hs]; exact ⟨seen, rfl⟩
    · rw [if_neg hs]
      have hlt : s < m.text.size := by omega
      have hm : m.text.getD s 0 ∈ m.text := by
        rw [Array.getD, dif_pos hlt]; exact Array.getElem_mem ..
      obtain ⟨seen', e⟩ := h _ hm seen
      rw [e]
      exact admitted_none m h hl fuel (s + 1) seen'

theorem admitted_some {m : M} (h : Unmet m.code m.text) (hl : m.lim ≤ m.text.size) {fuel s p : Nat} {seen seen' : Sre.Seen} : M.admitted m fuel s seen ≠ .ok (some p, seen') := fun z => by
  obtain ⟨q, e⟩ := admitted_none m h hl fuel s seen
  rw [e] at z; cases z
theorem admitted_err {m : M} (h : Unmet m.code m.text) (hl : m.lim ≤ m.text.size) {fuel s : Nat} {seen : Sre.Seen} {why : String} : M.admitted m fuel s seen ≠ .error why := fun z => by
  obtain ⟨q, e⟩ := admitted_none m h hl fuel s seen
  rw [e] at z; cases z
theorem search_none {code text : Array Nat} {groups : Nat} (h4 : Head4 code) (h : Unmet code text) :
    (forSearch code text groups 0 text.size false).answer = some false ∧ (forSearch code text groups 0 text.size false).frames = [] ∧ (forSearch code text groups 0 text.size false).outcome = .none := by
  obtain ⟨a1, a2, a3⟩ := h4
  unfold forSearch
  dsimp only
  split
  · exact ⟨rfl, rfl, rfl⟩
  · unfold M.attemptFrom
    rw [if_neg]
    · split
      · rename_i heq; exact absurd heq (admitted_some h (Nat.le_refl _))
      · exact ⟨rfl, rfl, rfl⟩
      · rename_i heq; exact absurd heq (admitted_err h (Nat.le_refl _))
    · show ¬ ((!(M.hasFirstSet _)) = true)
      rw [show M.hasFirstSet _ = true from ?_]
      · decide
      · show ((match ops[code.getD 0 0]? with | some .INFO => true | _ => false) && code.getD 2 0 == 4) = true
        rw [a1, a2]; rfl

theorem run_fails {m : M} (h1 : m.answer = some false) (h2 : m.frames = []) (h3 : m.outcome = .none) : m.runFor 4 = { m with outcome := some .failed } := by
  have e : m.step = { m with outcome := some .failed } := by
    unfold M.step
    rw [h3]
    simp only [Option.isSome_none, Bool.false_eq_true, if_false]
    rw [h1, h2]
    rfl
  show (if m.outcome.isSome then m else M.runFor 3 m.step) = _
  rw [h3, if_neg (by decide), e]
  rfl

section
variable {M0 : Model} {A : Around} {E : Value → Shared → Prop} {s : Shared}
theorem rules_loop {f : Nat → PUnit → Sem (ForInStep PUnit)} {p : Nat → Bool} {t : Nat → String} (hf : ∀ i u, f i u = (if p i = true then do rule (t i); pure (.yield PUnit.unit) else pure (.yield PUnit.unit))) {Q : PUnit → Shared → Prop} (h : Q ⟨⟩ s) :
    ∀ l : List Nat, wpAny M0 A (forIn l PUnit.unit f) Q E s
  | [] => wpAny_pure h
  | i :: l => by
    rw [List.forIn_cons, hf]
    refine wpAny_bind ?_
    split
    · exact wpAny_bind (wpAny_rule (wpAny_pure (rules_loop hf h l)))
    · exact wpAny_pure (rules_loop hf h l)

theorem run_none {m : M} (h1 : m.answer = some false) (h2 : m.frames = []) (h3 : m.outcome = .none) {Q : Option M → Shared → Prop} (h : Q .none s) : wpAny M0 A (reRunToEnd m) Q E s := by
  unfold reRunToEnd
  rw [show (2 : Nat) ^ 64 = 18446744073709551615 + 1 from rfl]
  refine wpAny_bind (m := reDrive _ _) ?_
  unfold reDrive
  show wpAny M0 A (if (m.runFor 4).outcome.isSome = true then pure (m.runFor 4) else _) _ _ _
  rw [run_fails h1 h2 h3]
  refine wpAny_ite_split (fun _ => ?_) (fun hn => absurd rfl hn)
  refine wpAny_pure ?_
  refine wpAny_bind (rules_loop (p := fun i => m.seen.has i) (t := fun i => names.getD i "") (fun i u => ?_) ?_ _)
  · show (if m.seen.has i = true then _ else _) = _
    split <;> rfl
  · exact wpAny_pure h
end

structure IsRe (h : Heap) (a : Addr) (code : Array Nat) : Prop where
  ex : ∃ (x : Str) (t : Tok) (i2 i6 : Value) (v1 v3 v4 : Value) (ca : Addr) (items : Array Value) (n : Nat), h.get? a = some ⟨.type "re.Pattern", .none, .fields #[.str x t, v1, i2, v3, v4, .ref ca, i6], #[]⟩ ∧
    reRawNat i6 = 0 ∧ h.get? ca = some ⟨.type "tuple", .none, .seq items n, #[]⟩ ∧ (items.map reRawOf).map (·.toNat) = code

section
variable {prog : Program} {w : World} {S0 : Shared} {c : Cx} {m : Ms} {σ : Sto} {K : V → Sto → Prop}
theorem mth_search {a : Addr} {code : Array Nat} {K : V → List V → Sto → Prop} (ha : IsRe S0.heap a code) (h : K (.abs (.builtin "re.Pattern.search")) [.ref a] σ) : Mth prog w S0 c m σ (.ref a) "search" K :=
  Mth.of fun v hv pl s R Q E k => by
    obtain rfl : v = .ref a := hv
    obtain ⟨x, t, i2, i6, v1, v3, v4, ca, items, n, ho, h6, hc, hcode⟩ := ha.ex
    have ho' := R.keep _ _ ho
    exact getMethod_builtin ⟨_, ho', rfl⟩ re_plain re_slot re_type (fun b e => by cases e; exact ⟨_, ho', rfl⟩) (k _ (.abs (.builtin "re.Pattern.search")) [.ref a] σ s R rfl ⟨rfl, trivial⟩ h)
theorem cal_search {a : Addr} {code : Array Nat} {x : Str} (ha : IsRe S0.heap a code) (h4 : Head4 code) (hx : Unmet code x.cps) (hsz : x.length ≤ sizeLine) (h : K .none σ) : Cal prog w S0 c m σ (.abs (.builtin "re.Pattern.search")) [.ref a, .str x] [] K := by
  refine Cal.of fun fv vs hf hv s R Q E k => ?_
  obtain rfl : fv = .builtin "re.Pattern.search" := hf
  obtain ⟨v, u, rfl, rfl, t, rfl⟩ : ∃ v u, vs = [v, u] ∧ Rz (.ref a) v ∧ Rz (.str x) u := by
    cases vs with | nil => exact hv.elim | cons v vs => cases vs with | nil => exact hv.2.elim | cons u vs => cases vs with | nil => exact ⟨v, u, rfl, hv.1, hv.2.1⟩ | cons => exact hv.2.2.elim
  obtain ⟨px, pt, i2, i6, v1, v3, v4, ca, items, n, ho, h6, hc, hcode⟩ := ha.ex
  have ho' := R.keep _ _ ho
  have hc' := R.keep _ _ hc
  refine wpAny_call_entry re_slot (T := "re.Pattern") ⟨_, ho', rfl⟩ re_entry ?_ (re_args _ _)
  show wpAny _ _ (reTarget "re.Pattern.search" "search" ⟨[.ref a, .str x t], []⟩ >>= fun t => reAnswer t (Sre.forSearch t.code t.text t.groups t.pos t.lim false)) _ _ _
  refine wpAny_bind ?_
  unfold reTarget
  dsimp only
  refine wpAny_bind (wpAny_of_eq (re_named _) ?_)
  dsimp only
  refine wpAny_bind (wpAny_pure (wpAny_bind (wpAny_pure ?_)))
  refine wpAny_bind (m := fieldsOf (.ref a)) ?_
  unfold fieldsOf
  refine wpAny_bind (wpAny_load ho' (wpAny_pure ?_))
  refine wpAny_bind (m := reTextOf (.str x t)) (wpAny_of_eq (a := (x.cps, 0)) (by with_unfolding_all rfl) ?_)
  dsimp only
  have e6 : reRawNat (#[Value.str px pt, v1, i2, v3, v4, Value.ref ca, i6].getD 6 Value.none) = 0 := h6
  refine wpAny_ite_split (fun hab => absurd hab (by rw [e6]; decide)) (fun _ => ?_)
  refine wpAny_ite_split (fun hab => absurd hab (by rw [e6]; decide)) (fun _ => ?_)
  refine wpAny_bind (m := reNoCollectionInside (.str x t) 0) (wpAny_of_eq (a := ()) rfl ?_)
  refine wpAny_bind (m := reRawItems (.ref ca)) ?_
  unfold reRawItems
  refine wpAny_bind (m := seqItems? (.ref ca)) (wpAny_seqItems hc' rfl (wpAny_pure ?_))
  refine wpAny_pure ?_
  have e1 : Array.map (fun x => x.toNat) (Array.map reRawOf (Option.getD (some items) #[])) = code := hcode
  dsimp only
  have e2 : Min.min (((2 : Int) ^ (63 : Nat) - 1).toNat) x.cps.size = x.cps.size := Nat.min_eq_right (by
    have h1 : x.cps.size ≤ 16777216 := hsz
    have h2 : ((2 : Int) ^ (63 : Nat) - 1).toNat = 9223372036854775807 := by decide
    omega)
  rw [e1, show Min.min (Int.toNat 0) x.cps.size = 0 by simp, e2]
  unfold reAnswer
  obtain ⟨q1, q2, q3⟩ := search_none (groups := reRawNat (#[Value.str px pt, v1, i2, v3, v4, Value.ref ca, i6].getD 2 Value.none)) h4 hx
  refine wpAny_bind (run_none q1 q2 q3 ?_)
  exact wpAny_pure ⟨.none, rfl, k _ .none σ s R rfl h⟩
end
end Mine
end

section
set_option maxRecDepth 100000
namespace Mine

structure ClsOk (S0 : Shared) (K : Frag) (C : Addr) : Prop where
  X : K.In S0.heap
  makes : makesIn K C = true
  ga : findIn K (.ref C) "__getattribute__" = some (some (.builtin "object.__getattribute__"))
  gattr : findIn K (.ref C) "__getattr__" = some .none
  sattr : findIn K (.ref C) "__setattr__" = some (some (.builtin "object.__setattr__"))
  over : plainOver K C = true
  hasd : hasDictIn K C = true

section
variable {prog : Program} {w : World} {S0 : Shared} {c : Cx} {m : Ms} {σ : Sto} {K : V → Sto → Prop}

theorem inst_at {τ : Sto} {s : Shared} {x C d : Addr} {od : O} (R : Rel S0 τ s) (hx : (x, O.inst C d) ∈ τ) (hd : (d, od) ∈ τ) : ∃ o, s.heap.get? d = some o ∧ OR od o ∧ InstAt s.heap x (instObj C d) C (some o) := by
  obtain ⟨_, ox, hox, rfl⟩ := R.objs _ hx
  obtain ⟨_, o, ho, hor⟩ := R.objs _ hd
  exact ⟨o, ho, hor, hox, rfl, rfl, ho⟩

/-- x.attr, an attribute of the object's own -/
theorem ev_attr {Kf : Frag} {n attr : Str} {np pos : Pos} (h : Ev prog w S0 c (.Name n np) m σ fun x σ1 => ∃ a C d b, x = .ref a ∧ (a, O.inst C d) ∈ c.st m σ1 ∧ (d, O.idict attr (.ref b)) ∈ c.st m σ1 ∧ ClsOk S0 Kf C ∧ findIn Kf (.ref C) attr = some .none ∧ K (.ref b) σ1) :
    Ev prog w S0 c (.Attribute (.Name n np) attr pos) m σ K :=
  Op.of fun s R Q E k => Attribute_name (Op.get h s R _ E fun v x σ1 s1 R1 hx ⟨a, C, d, b, e, ha, hd, ck, hf, h1⟩ => by
    subst e
    obtain rfl : v = .ref a := hx
    obtain ⟨o, ho, ⟨t, u, n, hsh, rfl, rfl⟩, I⟩ := inst_at R1 ha hd
    refine get_value (ck.X.keeps R1.keep) I ck.ga (findObj_own ck.hasd hf rfl (v := .ref b) ?_) rfl (k _ (.ref b) σ1 _ (R1.toks _) rfl h1)
    unfold lookIn
    simp [Value.isStr])

/-- a method of the object's class -/
theorem mth_own {Kf : Frag} {name : Str} {x C d f : Addr} {attr : Str} {y : V} {K : V → List V → Sto → Prop} (hx : (x, O.inst C d) ∈ c.st m σ) (hd : (d, O.idict attr y) ∈ c.st m σ) (ck : ClsOk S0 Kf C)
    (hf : findIn Kf (.ref C) name = some (some (.ref f))) (ht : typeIn Kf (.ref f) = some (.type "function")) (hn : (attr == name) = false) (h : K (.ref f) [.ref x] σ) : Mth prog w S0 c m σ (.ref x) name K :=
  Mth.of fun v hv pl s R Q E k => by
    obtain rfl : v = .ref x := hv
    obtain ⟨o, ho, ⟨t, u, n, hsh, rfl, hz⟩, I⟩ := inst_at R hx hd
    refine method_fn (ck.X.keeps R.keep) I ck.ga ck.gattr hf ht ?_ (k _ (.ref f) [.ref x] σ s R rfl ⟨rfl, trivial⟩ h)
    unfold shadowIn lookIn
    simp [Value.isStr, hn, DictEntry.refKey]

theorem Upd.keys {a : Addr} {x y : O} {σ σ' : Sto} (h : Upd a x y σ σ') : σ'.map (·.1) = σ.map (·.1) := by
  obtain ⟨l1, l2, rfl, rfl⟩ := h.split; simp
theorem Upd.cases' {a : Addr} {x y : O} {σ σ' : Sto} (h : Upd a x y σ σ') (nd : (σ.map (·.1)).Nodup) : ∀ p ∈ σ', p = (a, y) ∨ (p ∈ σ ∧ p.1 ≠ a) := by
  obtain ⟨l1, l2, rfl, rfl⟩ := h.split
  rw [List.map_append, List.map_cons, List.nodup_append] at nd
  obtain ⟨n1, n2, n3⟩ := nd
  rw [List.nodup_cons] at n2
  intro p hp
  rcases List.mem_append.mp hp with hp | hp
  · exact .inr ⟨List.mem_append_left _ hp, n3 p.1 (List.mem_map_of_mem hp) a (.head _)⟩
  · rcases List.mem_cons.mp hp with rfl | hp
    · exact .inl rfl
    · exact .inr ⟨List.mem_append_right _ (.tail _ hp), fun q => n2.1 (q ▸ (List.mem_map_of_mem hp : p.1 ∈ l2.map (·.1)))⟩

def others (h : Heap) (L d : Addr) : List (Addr × Obj) := (List.range h.objs.size).filterMap fun b => if b = L ∨ b = d then .none else (h.get? b).map fun o => (b, o)
theorem mem_others {h : Heap} {L d b : Addr} {o : Obj} (e : h.get? b = some o) (h1 : b ≠ L) (h2 : b ≠ d) : (b, o) ∈ others h L d := by
  refine List.mem_filterMap.mpr ⟨b, List.mem_range.mpr (Heap.lt_size e), ?_⟩
  rw [if_neg (by simp [h1, h2]), e]; rfl
theorem of_others {h : Heap} {L d : Addr} {p : Addr × Obj} (hp : p ∈ others h L d) : h.get? p.1 = some p.2 ∧ p.1 ≠ L ∧ p.1 ≠ d := by
  obtain ⟨b, _, e⟩ := List.mem_filterMap.mp hp
  by_cases hb : b = L ∨ b = d
  · rw [if_pos hb] at e; cases e
  · rw [if_neg hb] at e
    obtain ⟨o, ho, rfl⟩ := Option.map_eq_some_iff.mp e
    exact ⟨ho, fun q => hb (.inl q), fun q => hb (.inr q)⟩

theorem set_attr {Kf : Frag} {x C d : Addr} {name : Str} {y : V} {v : Value} {σ' : Sto} {s : Shared} (R : Rel S0 (c.st m σ) s) (hx : (x, O.inst C d) ∈ c.st m σ) (U : Upd d .edict (.idict name y) σ σ') (hz : Rz y v) (ck : ClsOk S0 Kf C)
    (ht : takerIn Kf C name = some .none) {Q : Unit → Shared → Prop} {E : Value → Shared → Prop} (k : ∀ s', Rel S0 (c.st m σ') s' → Q () s') : wpAny (model prog w) c.A (setAttr (.ref x) name v) Q E s := by
  have UU : Upd d .edict (.idict name y) (c.st m σ) (c.st m σ') := .tail (U.app _)
  obtain ⟨o, ho, rfl, I⟩ := inst_at R hx UU.mem
  have X := ck.X.keeps R.keep
  have hdL : d ≠ c.env.locals := by
    have nd := R.nodup
    rw [show c.st m σ = (c.env.locals, O.frame c.names m) :: (c.F ++ σ) from rfl, List.map_cons, List.nodup_cons] at nd
    intro e
    exact nd.1 (e ▸ (List.mem_map_of_mem (List.mem_append_right _ U.mem) : d ∈ (c.F ++ σ).map (·.1)))
  obtain ⟨mm, hns, hm⟩ := frame_ns R
  refine set_plain X I ck.sattr ?_
  refine osa_dict (s := { s with toks := s.toks + 1 }) (h₀ := { s.heap with objs := #[] }) (L := c.env.locals) (m := mm) (pre := []) (post := others s.heap c.env.locals d) (od := ⟨.type "dict", .none, .dict #[] 0, #[]⟩)
    (od' := ⟨.type "dict", .none, .dict #[⟨PyData.keyHash w.params name, .str name (s.toks + 1), v⟩] 1, #[]⟩) (es := [⟨PyData.keyHash w.params name, .str name (s.toks + 1), v⟩]) (n := 1)
    ⟨hns, fun b o e => by simp [Heap.get?] at e, Nat.zero_le _⟩ ?_ X I rfl ck.over ht ck.hasd rfl (fun p hp => nomatch hp) (fun p hp => (of_others hp).2.2) rfl rfl (by simp) fun h' F' N' => ?_
  · intro p hp
    rcases List.mem_cons.mp hp with rfl | hp
    · exact ⟨ho, hdL, by simp [Heap.get?]⟩
    · exact ⟨(of_others hp).1, (of_others hp).2.1, by simp [Heap.get?]⟩
  · refine k _ ?_
    have same : ∀ b o, s.heap.get? b = some o → b ≠ c.env.locals → b ≠ d → h'.get? b = some o := fun b o e h1 h2 => (N' (b, o) (.tail _ (mem_others e h1 h2))).1
    refine ⟨R.gens, R.drawn, R.os, fun b o e => same b o (R.keep b o e) (fun q => ?_) (fun q => ?_), ?_, fun p hp => ?_⟩
    · have := (R.objs _ (.head _)).1
      rw [show ((c.env.locals, O.frame c.names m) : Addr × O).1 = c.env.locals from rfl, ← q, e] at this; cases this
    · have := (R.objs _ UU.mem).1
      rw [show ((d, O.edict) : Addr × O).1 = d from rfl, ← q, e] at this; cases this
    · rw [UU.keys]; exact R.nodup
    · rcases UU.cases' R.nodup p hp with rfl | ⟨hp, hne⟩
      · exact ⟨(R.objs _ UU.mem).1, _, (N' _ (.head _)).1, _, _, _, _, rfl, hz⟩
      · rcases List.mem_cons.mp hp with rfl | hp'
        · obtain ⟨o1, es, ep, g1, g2, g3, g4⟩ := F'.ns
          exact ⟨(R.objs _ (.head _)).1, o1, g1, es, ep, g2, g3, fun i z hi => by rw [g4 z]; exact hm i z hi⟩
        · obtain ⟨q, ob, hob, hor⟩ := R.objs p hp
          refine ⟨q, ob, same _ _ hob (fun e => ?_) hne, hor⟩
          have nd := R.nodup
          rw [show c.st m σ = (c.env.locals, O.frame c.names m) :: (c.F ++ σ) from rfl, List.map_cons, List.nodup_cons] at nd
          exact nd.1 (e ▸ (List.mem_map_of_mem hp' : p.1 ∈ (c.F ++ σ).map (·.1)))

/-- self.attr = e, the first -/
theorem ex_setattr {Kf : Frag} {o e : Expr} {attr : Str} {p pos : Pos} {rest : List Stmt} {K : Fl → Ms → Sto → Prop}
    (h : Ev prog w S0 c e m σ fun y σ1 => Ev prog w S0 c o m σ1 fun z σ2 => ∃ x C d σ3, z = .ref x ∧ (x, O.inst C d) ∈ c.st m σ2 ∧ Upd d .edict (.idict attr y) σ2 σ3 ∧ ClsOk S0 Kf C ∧ takerIn Kf C attr = some .none ∧ Ex prog w S0 c rest m σ3 K)
    (hs : swapsWith e (some (.Attribute o attr p)) pos.line c.env = pure false := by rfl) : Ex prog w S0 c (.Assign [.Attribute o attr p] e pos :: rest) m σ K :=
  Ex.of fun s R Q E k => wpAny_execs_cons (plainObj_wpAny_Assign_Attribute (Op.get h s R _ E fun v y σ1 s1 R1 hy h1 => Op.get h1 s1 R1 _ E fun u z σ2 s2 R2 hz h2 => by
    obtain ⟨x, C, d, σ3, rfl, hx, hu, ck, ht, hk⟩ := h2
    obtain rfl : u = .ref x := hz
    exact set_attr R2 hx hu hy ck ht fun s' R' => Ex.get hk s' R' Q E k) hs)
end
end Mine
end

section
set_option maxRecDepth 100000
namespace Mine
section
variable {prog : Program} {w : World} {S0 : Shared} {c : Cx} {m : Ms} {σ : Sto} {K : V → Sto → Prop}

theorem kpr_cls {Kf : Frag} {C : Addr} (ck : ClsOk S0 Kf C) : Kpr prog w S0 (.ref C) := by
  rintro _ rfl
  obtain ⟨⟨oc, od, cd, sl, hC, e1, e2, e4⟩, made, base, self, top, call, typ⟩ := makes_of (M := model prog w) ck.X ck.makes
  refine ⟨.machine, .inr (.inl rfl), fun A Q E s k q => ?_⟩
  unfold keeperOf
  refine wpAny_bind (wpAny_load (k _ _ hC) ?_)
  show wpAny _ _ (specialOf (.ref C) "__call__" >>= _) _ _ _
  exact wpAny_bind (call A _ E s k (wpAny_pure q))

/-- the context below type.__call__ -/
def Cx.under (c : Cx) (code : Code) : Cx := { c with A := c.A.under code }

/-- a call by the code's own way -/
def CCal (prog : Program) (w : World) (S0 : Shared) (c : Cx) (m : Ms) (σ : Sto) (f : V) (xs : List V) (K : V → Sto → Prop) : Prop :=
  ∀ fv vs, Rz f fv → RzL xs vs → ∀ s, Rel S0 (c.st m σ) s → ∀ Rr : Result → Shared → Prop, (∀ v V σ' s', Rel S0 (c.st m σ') s' → Rz V v → K V σ' → Rr (.ok (.ret v)) s') → codeAny (model prog w) c.A (.call fv ⟨vs, []⟩) Rr s
theorem CCal.cal {f : V} {xs : List V} (h : CCal prog w S0 c m σ f xs K) : Cal prog w S0 c m σ f xs [] K := Cal.of fun fv vs hf hv s R Q E k => wpAny_call (h fv vs hf hv s R _ k)

/-- C() -/
theorem cal_make {Kf : Frag} {C fI : Addr} (ck : ClsOk S0 Kf C) (hi : findIn Kf (.ref C) "__init__" = some (some (.ref fI))) (hf : typeIn Kf (.ref fI) = some (.type "function"))
    (h : ∀ x d, CCal prog w S0 (c.under (.builtin "type.__call__" ⟨[.ref C], []⟩)) m ((x, .inst C d) :: (d, .edict) :: σ) (.ref fI) [.ref x] fun v σ' => v = .none ∧ K (.ref x) σ') : Cal prog w S0 c m σ (.ref C) [] [] K := by
  refine Cal.of fun fv vs hfv hv s R Q E k => ?_
  obtain rfl : fv = .ref C := hfv
  cases vs with
  | cons => exact hv.elim
  | nil =>
    refine wpAny_call ?_
    have X := ck.X.keeps R.keep
    obtain ⟨hh, g, d, t, os⟩ := s
    refine make_core (makes_of X ck.makes) (looks_findIn X hi) (fun self => bind_fn X self hf) (.inl rfl) ?_
    have R1 := R.new (x := .edict) (o := emptyDict) rfl rfl t
    have R2 := R1.new (x := .inst C hh.objs.size) (o := instObj C hh.objs.size) rfl rfl t
    have es : (hh.push emptyDict).objs.size = hh.objs.size + 1 := Heap.size_push ..
    have R3 : Rel S0 ((c.under (.builtin "type.__call__" ⟨[.ref C], []⟩)).st m ((hh.objs.size + 1, .inst C hh.objs.size) :: (hh.objs.size, .edict) :: σ)) ⟨(hh.push emptyDict).push (instObj C hh.objs.size), g, d, t, os⟩ := by
      have := R2
      simp only [es] at this
      exact this
    refine h _ _ (.ref fI) [.ref (hh.objs.size + 1)] rfl ⟨rfl, trivial⟩ _ R3 _ fun v V σ' s' R' hz ⟨e, hK⟩ => ?_
    subst e
    exact ⟨hz, k _ (.ref (hh.objs.size + 1)) σ' s' R' rfl hK⟩

/- a set of ints -/
def setView (o : Obj) : Option (List Int) := match o with
  | ⟨.type T, .none, .set es _ t, sl⟩ => if T == "set" && sl.isEmpty && Nat.blt es.size scanBound && t.fits es.size && es.toList.all (fun e => match e.2 with | .int i _ => e.1 == hashInt i | _ => false) then some (es.toList.filterMap fun e => match e.2 with | .int i _ => some i | _ => .none) else .none
  | _ => .none
theorem setOf_view {h : Heap} {a : Addr} {o : Obj} {ns : List Int} (ho : h.get? a = some o) (hv : setView o = some ns) : h.SetOf (intKind prog w) a (fun i => ns.contains i) ns.length := by
  unfold setView at hv
  split at hv
  · rename_i T es ep t sl
    split at hv
    · rename_i hc
      simp only [Bool.and_eq_true, beq_iff_eq, Array.isEmpty_iff, Nat.blt_eq] at hc
      obtain ⟨⟨⟨⟨rfl, rfl⟩, hb⟩, hf⟩, hall⟩ := hc
      cases hv
      rw [List.all_eq_true] at hall
      have shape : ∀ e ∈ es.toList, ∃ i tk, e.2 = .int i tk ∧ e.1 = hashInt i := fun e he => by
        have := hall e he
        split at this
        · rename_i i tk q; exact ⟨i, tk, q, eq_of_beq this⟩
        · cases this
      have len : (es.toList.filterMap fun e => match e.2 with | .int i _ => some i | _ => (.none : Option Int)).length = es.size := by
        rw [← Array.length_toList]
        generalize es.toList = l at shape
        induction l with
        | nil => rfl
        | cons e l ih =>
          obtain ⟨i, tk, q, _⟩ := shape e (.head _)
          rw [List.filterMap_cons, q]
          simp [ih fun x hx => shape x (.tail _ hx)]
      refine ⟨_, es, ep, t, ho, ⟨rfl, rfl, rfl⟩, rfl, fun e he => ?_, fun k => ?_, hb, hf, len.symm⟩
      · obtain ⟨i, tk, q, hh⟩ := shape e he
        refine ⟨⟨i, ?_, hh⟩, ?_⟩
        · rw [q]; simp [intKind, Value.isInt]
        · rw [q]; rfl
      · rw [List.contains_iff_mem, List.mem_filterMap]
        constructor
        · rintro ⟨e, he, hk⟩
          obtain ⟨i, tk, q, _⟩ := shape e he
          rw [q] at hk
          cases hk
          exact ⟨e, he, by rw [q]; simp [intKind, Value.isInt]⟩
        · rintro ⟨e, he, hk⟩
          obtain ⟨i, tk, q, _⟩ := shape e he
          refine ⟨e, he, ?_⟩
          rw [q] at hk ⊢
          simp [intKind, Value.isInt] at hk
          simp [hk]
    · cases hv
  · cases hv
theorem cmp_in_set {a : Addr} {o : Obj} {ns : List Int} {i : Int} (ho : S0.heap.get? a = some o) (hv : setView o = some ns) (h : K (.bool (ns.contains i)) σ) : Cmp prog w S0 c m σ .In (.int i) (.ref a) K := by
  rintro _ _ ⟨t, rfl⟩ rfl
  exact Op.of fun s R Q E k => wpAny_inSet_of (knd := intKind prog w) (k := i) (by simp [intKind, Value.isInt]) rfl (setOf_view (R.keep _ _ ho) hv) (k _ (.bool _) σ _ (R.toks _) rfl h)

/- the items of a dict that is empty -/
theorem mth_items {d : Addr} {K : V → List V → Sto → Prop} (hd : (d, O.edict) ∈ c.st m σ) (h : K (.abs (.builtin "dict.items")) [.ref d] σ) : Mth prog w S0 c m σ (.ref d) "items" K :=
  Mth.of fun v hv pl s R Q E k => by
    obtain rfl : v = .ref d := hv
    obtain ⟨_, o, ho, rfl⟩ := R.objs _ hd
    exact getMethod_builtin ⟨_, ho, rfl⟩ F.plainAttrs_dict F.slot_dict_items F.type_dict_items (fun b e => by cases e; exact ⟨_, ho, rfl⟩) (k _ (.abs (.builtin "dict.items")) [.ref d] σ s R rfl ⟨rfl, trivial⟩ h)
end
end Mine
end

section
set_option maxRecDepth 100000
namespace Mine
theorem entry_itemiter : entryFor table "dict_itemiterator.__iter__" = some Builtin.«dict_keyiterator.__iter__» :=
  entryFor_alias (id' := "dict_keyiterator.__iter__") (by kernel_rfl) rfl (by decide +kernel) (by kernel_rfl)
section
variable {prog : Program} {w : World} {S0 : Shared} {c : Cx} {m : Ms} {σ : Sto} {K : V → Sto → Prop}

def itemsObj (d : Addr) : Obj := ⟨.type "dict_items", .none, .fields #[.ref d], #[]⟩
def itemIter (d : Addr) : Obj := ⟨.type "dict_itemiterator", .none, .fields #[.none, .bool false, .ref d, .int 0 0, .int 0 0, .int 0 0, .none, .none], #[]⟩
theorem edict_at {τ : Sto} {s : Shared} {d : Addr} (R : Rel S0 τ s) (hd : (d, O.edict) ∈ τ) : s.heap.DictAt (strKind prog w) d [] 0 := by
  obtain ⟨_, o, ho, rfl⟩ := R.objs _ hd
  exact ⟨_, #[], ho, ⟨rfl, rfl, rfl⟩, rfl, fun e he => by simp at he, .nil, List.nodup_nil⟩
theorem cal_items {d : Addr} (hd : (d, O.edict) ∈ c.st m σ) (hsys : ∃ o, S0.heap.get? sysModules = some o) (h : ∀ v, K (.ref v) ((v, .obj (itemsObj d)) :: σ)) : Cal prog w S0 c m σ (.abs (.builtin "dict.items")) [.ref d] [] K := cal_bi fun vs hv s R Q E k => by
  obtain ⟨v, rfl, rfl⟩ := hv.one
  have hs : (d == sysModules) = false := beq_eq_false_iff_ne.mpr fun e => by
    obtain ⟨o, ho⟩ := hsys
    have := (R.objs _ hd).1
    rw [show ((d, O.edict) : Addr × O).1 = d from rfl, e, ho] at this; cases this
  obtain ⟨_, o, ho, rfl⟩ := R.objs _ hd
  have D := edict_at (prog := prog) (w := w) R hd
  obtain ⟨od, es, g1, g2, g3, g4, g5, g6⟩ := D
  refine call_meetsIn F.slot_dict_items (T := "dict") ⟨_, ho, rfl⟩ F.entry_dict_items (F.args_dict_items_1 _) (meets_dict_items (strKind prog w) d hs) ⟨⟨[], _, es, _, g1, g2, g3, g4, g5, g6⟩, ?_⟩
  exact k _ (.ref s.heap.objs.size) _ _ (R.new (x := .obj (itemsObj d)) rfl rfl s.toks) rfl (h _)
theorem itb_items {v d : Addr} : Itb prog w S0 (.ref v) [] fun τ => (v, O.obj (itemsObj d)) ∈ τ ∧ (d, O.edict) ∈ τ := by
  rintro A s τ _ hh R ⟨hv, hd⟩ rfl Q E k
  obtain ⟨_, ov, hov, rfl⟩ := R.objs _ hv
  refine wpAny_pyIter_items (knd := strKind prog w) ⟨_, hov, rfl, rfl⟩ (edict_at R hd) (k _ (fun _ => .obj (itemIter d)) _ ⟨?_, ?_, ?_, ?_, ?_⟩ (R.alloc (x := .obj (itemIter d)) rfl rfl s.toks))
  · intro A s τ i x hh R hP hx; simp at hx
  · intro A s τ i hh R hP hx Q E k
    obtain ⟨_, o, ho, rfl⟩ := R.objs _ (.head _)
    exact wpAny_pyNext_items_end (knd := strKind prog w) (kvs := []) (i := 0) hh ho (edict_at R (.tail _ hP.2)) rfl fun h' hs => k _ (R.gone hs s.toks)
  · exact fun h => ⟨.tail _ h.1, .tail _ h.2⟩
  · intro A s τ i R Q E k
    obtain ⟨_, o, ho, rfl⟩ := R.objs _ (.head _)
    exact wpAny_pyIter_slot ⟨_, ho, rfl⟩ F.slot_dict_itemiterator_iter (wpAny_call_entry F.slot_dict_itemiterator_iter ⟨_, ho, rfl⟩ entry_itemiter (wpAny_pure ⟨_, rfl, "dict_itemiterator", _, ⟨_, ho, rfl⟩, F.slot_dict_itemiterator_next.lookup, k⟩) (F.args_dict_itemiterator_iter_1 _))
  · intro A s τ i t u R Q E k
    obtain ⟨_, o, ho, rfl⟩ := R.objs _ (.head _)
    unfold letOwnedTupleGo
    split
    all_goals first
      | exact wpAny_pure k
      | (cases u <;> first
          | exact wpAny_pure k
          | (refine wpAny_bind (wpAny_load ho ?_)
             refine wpAny_ite_split (fun hab => absurd hab ?_) (fun _ => wpAny_pure k)
             rw [Bool.and_eq_true, not_and]
             intro _ hz
             cases hz))

/- what a def's arguments become -/
theorem binds_of {fd : FuncData} {xs : List V} {kws : List (Str × V)} {P : List (Str × V) → Sto → Prop}
    (h : ∀ vs ks, RzL xs vs → RzL (kws.map (·.2)) ks → ∃ bs bxs, bindArgs fd ⟨vs, (kws.map (·.1)).zip ks⟩ = pure bs ∧ bxs.map (·.1) = bs.map (·.1) ∧ RzL (bxs.map (·.2)) (bs.map (·.2)) ∧ P bxs σ) : Binds prog w S0 c m σ fd xs kws P := fun vs ks hv hk => by
  obtain ⟨bs, bxs, e, h1, h2, h3⟩ := h vs ks hv hk
  rw [e]
  exact Tr.pure ⟨bxs, σ, h1, h2, Imp.rfl, h3⟩
/-- with defaults, out of a tuple of the top -/
theorem binds_dflt {fd : FuncData} {xs : List V} {kws : List (Str × V)} {P : List (Str × V) → Sto → Prop} {T : Addr} {o : Obj} {items : Array Value} {n : Nat} (hT : S0.heap.get? T = some o) (hd : o.data = .seq items n) (hf : fd.defaults = .ref T)
    (h : ∀ vs ks, RzL xs vs → RzL (kws.map (·.2)) ks → ∃ bs bxs k, bindArgs fd ⟨vs, (kws.map (·.1)).zip ks⟩ = seqItems? fd.defaults >>= k ∧ k (some items) = pure bs ∧ bxs.map (·.1) = bs.map (·.1) ∧ RzL (bxs.map (·.2)) (bs.map (·.2)) ∧ P bxs σ) : Binds prog w S0 c m σ fd xs kws P := fun vs ks hv hk => by
  obtain ⟨bs, bxs, k, e, ek, h1, h2, h3⟩ := h vs ks hv hk
  rw [e, hf]
  intro s R Q E kk
  refine wpAny_bind (wpAny_seqItems (R.keep _ _ hT) hd ?_)
  rw [ek]
  exact wpAny_pure (kk _ _ s R ⟨bxs, σ, h1, h2, Imp.rfl, h3⟩)
/-- with a dict of the named arguments, of which there are none -/
theorem binds_kwargs {fd : FuncData} {xs : List V} {P : List (Str × V) → Sto → Prop}
    (h : ∀ vs, RzL xs vs → ∃ (bs : Addr → List (Str × Value)) (bxs : Addr → List (Str × V)), bindArgs fd ⟨vs, []⟩ = (alloc { cls := .type "dict", data := .dict #[] } >>= fun d => pure (bs d)) ∧
      ∀ d, (bxs d).map (·.1) = (bs d).map (·.1) ∧ RzL ((bxs d).map (·.2)) ((bs d).map (·.2)) ∧ P (bxs d) ((d, .edict) :: σ)) : Binds prog w S0 c m σ fd xs [] P := fun vs ks hv hk => by
  obtain ⟨bs, bxs, e, h1⟩ := h vs hv
  show Tr prog w S0 c.A.in1 (c.st m σ) (bindArgs fd ⟨vs, []⟩) _
  rw [e]
  intro s R Q E kk
  refine wpAny_bind (wpAny_alloc (wpAny_pure ?_))
  obtain ⟨h1, h2, h3⟩ := h1 s.heap.objs.size
  exact kk _ _ _ (R.new (x := .edict) (o := { cls := .type "dict", data := .dict #[] }) rfl rfl s.toks) ⟨bxs s.heap.objs.size, _, h1, h2, Imp.rfl, h3⟩

/- a, b = (a tuple), the stores swapped -/
theorem ex_swap {ts : List Expr} {k : Nat} {tp pos : Pos} {e : Expr} {n1 n2 : Str} {rest : List Stmt} {K : Fl → Ms → Sto → Prop}
    (h : Ev prog w S0 c e m σ fun x σ1 => ∃ a y1 y2, x = .ref a ∧ (a, O.tuple [y1, y2]) ∈ c.st m σ1 ∧ Sto1 prog w S0 c m σ1 n2 y2 fun m1 σ2 => Sto1 prog w S0 c m1 σ2 n1 y1 fun m2 σ3 => Ex prog w S0 c rest m2 σ3 K)
    (hs : swapsWithSole [.Tuple ts k tp] e pos.line c.env = pure false := by rfl) (hw : swappedStores [.Tuple ts k tp] e c.env = pure (some [n1, n2]) := by rfl) : Ex prog w S0 c (.Assign [.Tuple ts k tp] e pos :: rest) m σ K :=
  Ex.of fun s R Q E kk => wpAny_execs_cons (Assign_Tuple_swapped (names := [n1, n2]) (Op.get h s R _ E fun v x σ1 s1 R1 hx ⟨a, y1, y2, e1, ha, h1⟩ => by
    subst e1
    obtain rfl : v = .ref a := hx
    obtain ⟨vs, nn, ht, hz⟩ := tuple_at R1 ha
    have hl : vs.length = 2 := hz.len
    have : ([n1, n2] : List Str).length = vs.toArray.size := by simp [hl]
    rw [this]
    refine unpackItems_tuple c.hand ⟨_, ht, rfl, nn, rfl⟩ fun h' hx => ?_
    have R2 : Rel S0 (c.st m σ1) { s1 with heap := h' } := R1.grow (h' := h') (fun b o e => hx b o (Nat.ne_of_lt (Heap.lt_size e)) e) s1.toks
    obtain ⟨v1, v2, rfl, z1, z2⟩ := hz.two
    show wpAny _ _ (holding [v1] (bindName c.env n2 v2) >>= fun _ => (holding [] (bindName c.env n1 v1) >>= fun _ => pure ())) _ _ _
    refine wpAny_bind (wpAny_holding (wpAny_bindName (h1.get v2 z2 _ R2 _ E fun m1 σ2 s2 R2 h2 => wpAny_bind (wpAny_holding (wpAny_bindName (h2.get v1 z1 s2 R2 _ E fun m2 σ3 s3 R3 h3 => wpAny_pure (Ex.get h3 s3 R3 Q E kk)))))))) hs hw)
end
end Mine
end

section
set_option maxRecDepth 100000
namespace Mine
section
variable {prog : Program} {w : World} {S0 : Shared} {c : Cx} {m : Ms} {σ : Sto}

theorem draw_itr {it : Addr} {o : Nat → O} {xs : List V} {P : Sto → Prop} {A : Around} (hh : A.handled = .none) (I : Itr prog w S0 it o xs P) : ∀ (n i : Nat) (ys : List V) (τ : Sto) (s : Shared), Rel S0 ((it, o i) :: τ) s → P τ → i + n ≤ xs.length →
    ∀ (Q : List Value → Shared → Prop) (E : Value → Shared → Prop), (∀ vs s', Rel S0 ((it, o (i + n)) :: τ) s' → RzL ((xs.drop i).take n) vs → Q vs s') → wpAny (model prog w) A (draw (.ref it) n) Q E s
  | 0, i, ys, τ, s, R, hP, hl, Q, E, k => by
    show wpAny _ _ (pure []) Q E s
    exact wpAny_pure (k [] s R (by rw [List.take_zero]; trivial))
  | n + 1, i, ys, τ, s, R, hP, hl, Q, E, k => by
    have hlt : i < xs.length := by omega
    show wpAny _ _ (pyNext (.ref it) >>= _) Q E s
    refine wpAny_bind (I.next hh R hP (List.getElem?_eq_getElem hlt) _ _ fun v s1 R1 hv => ?_)
    refine wpAny_bind (wpAny_holding (draw_itr hh I n (i + 1) ys τ s1 R1 hP (by omega) _ _ fun vs s2 R2 hvs => wpAny_pure (k (v :: vs) s2 ?_ ?_)))
    · rw [show i + (n + 1) = i + 1 + n by omega]; exact R2
    · rw [List.drop_eq_getElem_cons hlt, List.take_succ_cons]; exact ⟨hv, hvs⟩

/-- a, b, .. = (a list) -/
theorem unpack_list {a : Addr} {xs : List V} {s : Shared} (R : Rel S0 (c.st m σ) s) (ha : (a, O.list xs) ∈ c.st m σ) {Q : List Value → Shared → Prop} {E : Value → Shared → Prop}
    (k : ∀ vs s', Rel S0 (c.st m σ) s' → RzL xs vs → Q vs s') : wpAny (model prog w) c.A (unpackItems (.ref a) xs.length .none) Q E s := by
  obtain ⟨us, n, hl, hz⟩ := list_at R ha
  unfold unpackItems
  refine wpAny_bind ?_
  unfold notIterableAtAll
  refine wpAny_bind (wpAny_specialOf hl.isList.typeIs slot_list_iter.lookup ?_)
  refine wpAny_pure ?_
  simp only [Bool.false_eq_true, if_false]
  refine wpAny_bind (wpAny_holding (itb_list (prog := prog) (w := w) (S0 := S0) c.hand R ha rfl _ _ fun it o s1 I R1 => ?_))
  refine wpAny_bind (wpAny_holding (draw_itr c.hand I xs.length 0 [] _ s1 R1 ha (by omega) _ _ fun vs s2 R2 hvs => ?_))
  rw [List.drop_zero, List.take_length] at hvs
  rw [if_neg (by rw [hvs.len]; omega)]
  refine wpAny_bind (wpAny_holding (I.done c.hand R2 ha (by rw [Nat.zero_add]; exact List.getElem?_eq_none (Nat.le_refl _)) _ _ fun s3 R3 => ?_))
  simp only [Option.isSome_none, Bool.false_eq_true, if_false]
  exact wpAny_pure (k vs s3 R3 hvs)
theorem findIdx_plain {env : Env} : ∀ ts : List Expr, (ts.map fun t => (false, assign t env)).findIdx? (·.1) = .none
  | [] => rfl
  | t :: ts => by rw [List.map_cons, List.findIdx?_cons, findIdx_plain ts]; rfl
theorem asg_ltuple {ts : List Expr} {n : Nat} {p : Pos} {a : Addr} {xs : List V} {K : Ms → Sto → Prop} (ha : (a, O.list xs) ∈ c.st m σ) (hl : ts.length = xs.length)
    (h : AsgL prog w S0 c ts xs m σ K) (he : assignEach ts c.env = ts.map fun t => (false, assign t c.env) := by rfl) : Asg prog w S0 c (.Tuple ts n p) (.ref a) m σ K :=
  Asg.of fun v hv s R Q E k => by
    obtain rfl : v = .ref a := hv
    rw [arm_assign_Tuple, he]
    refine wpAny_bind (wpAny_standAt ?_)
    unfold unpack
    rw [findIdx_plain, List.length_map, hl]
    refine wpAny_bind (wpAny_holding (unpack_list R ha fun vs s' R' hz => ?_))
    rw [List.map_map]
    exact h.get vs hz s' R' Q E k
/-- the statement -/
theorem ex_asgt {ts : List Expr} {k : Nat} {tp pos : Pos} {e : Expr} {rest : List Stmt} {K : Fl → Ms → Sto → Prop}
    (h : Ev prog w S0 c e m σ fun x σ1 => Asg prog w S0 c (.Tuple ts k tp) x m σ1 fun m' σ2 => Ex prog w S0 c rest m' σ2 K)
    (hs : swapsWithSole [.Tuple ts k tp] e pos.line c.env = pure false := by rfl) (hw : swappedStores [.Tuple ts k tp] e c.env = pure .none := by rfl) : Ex prog w S0 c (.Assign [.Tuple ts k tp] e pos :: rest) m σ K :=
  Ex.of fun s R Q E kk => wpAny_execs_cons (Assign_Tuple (Op.get h s R _ E fun v x σ1 s1 R1 hx h1 => h1.get v hx s1 R1 _ E fun m' σ2 s2 R2 h2 => Ex.get h2 s2 R2 Q E kk) hs hw)
end
end Mine
end

section
open PySem.Builtin PySem.Builtin.Str
set_option maxRecDepth 100000
namespace Mine
/-- a text by its signs -/
def tx (l : List Nat) : PySem.Str := ⟨l.toArray⟩
theorem one_tx (n : Nat) : one n = tx [n] := rfl
theorem tx_cps (l : List Nat) : (tx l).cps.toList = l := rfl
theorem len_tx (l : List Nat) : (tx l).length = l.length := by simp [tx, PySem.Str.length]
theorem tx_app (a b : List Nat) : tx a ++ tx b = tx (a ++ b) := by
  show (⟨(tx a).cps ++ (tx b).cps⟩ : PySem.Str) = _
  simp [tx]
theorem tx_inj {a b : List Nat} : tx a = tx b ↔ a = b := ⟨fun h => by have := congrArg (fun x => x.cps.toList) h; simpa [tx] using this, fun h => h ▸ rfl⟩
theorem tx_beq (a b : List Nat) : (tx a == tx b) = (a == b) := by
  rw [Bool.eq_iff_iff, beq_iff_eq, beq_iff_eq]; exact tx_inj
theorem tx_bne (a b : List Nat) : (tx a != tx b) = (a != b) := by unfold bne; rw [tx_beq]
theorem signs_tx (l : List Nat) : signs (tx l) = l.map fun c => V.str (one c) := rfl
theorem foldl_cat (ls : List (List Nat)) : ∀ a : Array Nat, (ls.map tx).foldl (fun acc p => acc ++ (PySem.Str.ofString "").cps ++ p.cps) a = a ++ ls.flatten.toArray := by
  induction ls with
  | nil => intro a; simp
  | cons l ls ih =>
    intro a
    rw [List.map_cons, List.foldl_cons, ih]
    have e : (PySem.Str.ofString "").cps = #[] := by rfl
    rw [e]
    simp [tx]
theorem join_tx (ls : List (List Nat)) : Txt.join (PySem.Str.ofString "") (ls.map tx) = tx ls.flatten := by
  unfold Txt.join glued
  cases ls with
  | nil => rfl
  | cons l ls =>
    show (⟨(ls.map tx).foldl _ (tx l).cps⟩ : PySem.Str) = _
    rw [foldl_cat]
    simp [tx]
theorem join_one' (sep x : PySem.Str) : Txt.join sep [x] = x := rfl

theorem pick_range {α : Type} (l : List α) (a n : Nat) : ((List.range n).map fun k => a + k).filterMap (fun i => l[i]?) = (l.drop a).take n := by
  induction n generalizing a with
  | zero => rfl
  | succ n ih =>
    rw [List.range_succ_eq_map, List.map_cons, List.map_map, List.filterMap_cons]
    have e : ((List.range n).map ((fun k => a + k) ∘ Nat.succ)) = (List.range n).map fun k => (a + 1) + k := by
      apply List.map_congr_left; intro k _; simp; omega
    rw [e, ih (a + 1)]
    cases h : l[a]? with
    | none =>
      have hl : l.length ≤ a := by simpa using h
      simp [h, List.drop_eq_nil_of_le hl, List.drop_eq_nil_of_le (Nat.le_succ_of_le hl)]
    | some x =>
      obtain ⟨hlt, ex⟩ := List.getElem?_eq_some_iff.mp h
      simp [h, List.drop_eq_getElem_cons hlt, ex]
theorem slice_idx (lo hi : Option Int) (n : Nat) : strSliceIndices lo hi 1 n = (List.range (hi.elim n (clipAt n) - lo.elim 0 (clipAt n))).map fun k => lo.elim 0 (clipAt n) + k := by
  unfold strSliceIndices
  have clip : ∀ v : Option Int, ∀ d : Nat, d ≤ n → (match v with | .none => (d : Int) | some i => if (1 : Int) > 0 then max 0 (min (if i < 0 then i + n else i) n) else max (-1) (min (if i < 0 then i + n else i) (n - 1))) = ((v.elim d (clipAt n) : Nat) : Int) := fun v d hd => by
    cases v with
    | none => rfl
    | some i => simp only [Option.elim_some]; rw [clipAt_cast]; rfl
  have e1 := clip lo 0 (Nat.zero_le _)
  have e2 := clip hi n (Nat.le_refl _)
  simp only [show (1 : Int) > 0 from by decide, if_true] at e1 e2 ⊢
  have key : ∀ a b : Nat, sliceRange (a : Int) (b : Int) 1 = (List.range (b - a)).map fun k => a + k := fun a b => by
    unfold sliceRange
    simp only [show (1 : Int) > 0 from by decide, if_true, Int.ediv_one]
    by_cases h : (a : Int) < b
    · rw [if_pos h, show ((b : Int) - a + 1 - 1).toNat = b - a by omega]
      apply List.map_congr_left; intro k _; omega
    · rw [if_neg h, show b - a = 0 by omega]; rfl
  rw [← key]
  congr 1
theorem slice_tx (l : List Nat) (lo hi : Option Int) : Txt.slice (tx l) lo hi = tx (cut l lo hi) := by
  unfold Txt.slice
  split
  · rename_i h
    have hl : (strSliceIndices lo hi 1 l.length).length = l.length := by simpa [len_tx] using h
    rw [slice_idx, List.length_map, List.length_range] at hl
    have h1 : hi.elim l.length (clipAt l.length) ≤ l.length := by
      cases hi with
      | none => exact Nat.le_refl _
      | some i => simp only [Option.elim_some]; have := clipAt_cast l.length i; omega
    rw [tx_inj]
    unfold cut
    have a0 : lo.elim 0 (clipAt l.length) = 0 ∨ l = [] := by
      rcases Nat.eq_zero_or_pos l.length with h0 | h0
      · exact .inr (List.length_eq_zero_iff.mp h0)
      · exact .inl (by omega)
    rcases a0 with a0 | a0
    · rw [a0] at hl ⊢; rw [List.drop_zero, hl, List.take_length]
    · rw [a0]; simp
  · rw [len_tx, slice_idx]
    unfold cut
    rw [← pick_range]
    simp [tx]
theorem charAt_tx {l : List Nat} {i : Int} {n : Nat} (h0 : -(l.length : Int) ≤ i) (h : l[ix l.length i]? = some n) : Txt.charAt (tx l) i = some n := by
  obtain ⟨hlt, _⟩ := List.getElem?_eq_some_iff.mp h
  unfold ix at h hlt
  unfold Txt.charAt seqIndex?
  rw [len_tx]
  have h1 : (0 ≤ (if i < 0 then i + l.length else i) ∧ (if i < 0 then i + l.length else i) < l.length) := by
    split at hlt <;> (rename_i hi; simp only [hi, if_true, if_false]; omega)
  simp only [h1, decide_true, Bool.and_self, if_true, Option.bind_some]
  simpa [tx] using h
theorem lower_tx {l : List Nat} (h : ∀ c ∈ l, c < 128) : Txt.lower (tx l) = tx (l.map lo1) := by
  rw [lower_ascii (x := tx l) (fun c hc => h c hc)]
  simp [tx]

theorem flat_ones {α : Type} (l : List α) : (l.map fun f => [f]).flatten = l := by
  induction l with
  | nil => rfl
  | cons a l ih => rw [List.map_cons, List.flatten_cons, ih]; rfl
theorem sum_le {α : Type} (f : α → Nat) (b : Nat) : ∀ l : List α, (∀ x ∈ l, f x ≤ b) → (l.map f).sum ≤ l.length * b
  | [], _ => by simp
  | x :: l, h => by
    have := sum_le f b l fun y hy => h y (.tail _ hy)
    have h1 := h x (.head _)
    rw [List.map_cons, List.sum_cons, List.length_cons, Nat.add_mul]
    omega
theorem join_ok0 {ls : List (List Nat)} (b : Nat) (h : ∀ l ∈ ls, l.length ≤ b) (hs : ls.length * b ≤ 16777216) : ((ls.map tx).map (·.length)).sum + (ls.map tx).length * (PySem.Str.ofString "").length ≤ 16777216 := by
  have e : (PySem.Str.ofString "").length = 0 := by rfl
  have := sum_le (fun l : List Nat => l.length) b ls h
  rw [e, Nat.mul_zero, Nat.add_zero, List.map_map]
  have e2 : ls.map ((fun x : PySem.Str => x.length) ∘ tx) = ls.map (fun l : List Nat => l.length) := List.map_congr_left fun l _ => len_tx l
  rw [e2]; omega

/-- what `x in word` and its like need of the word's size -/
theorem sz {n : Nat} (h : n ≤ 1000000) : n ≤ sizeLine := Nat.le_trans h (by decide)
end Mine
end

section
set_option maxRecDepth 100000
namespace Mine
section
variable {prog : Program} {w : World} {S0 : Shared} {c : Cx} {m : Ms} {σ : Sto}

theorem ret_sub {K : V → Sto → Prop} {x : V} {m' : Ms} {σ2 σ3 : Sto} (hs : σ3.Sublist σ2) (h : K x σ3) : RetK S0 c m K (.ret x) m' σ2 := ⟨σ3, Wk.imp ⟨fun _ _ h => h, hs⟩, h⟩
theorem ret_none {K : V → Sto → Prop} {m' : Ms} {σ2 σ3 : Sto} (hs : σ3.Sublist σ2) (h : K .none σ3) : RetK S0 c m K .next m' σ2 := ⟨σ3, Wk.imp ⟨fun _ _ h => h, hs⟩, h⟩

/-- a loop by an invariant over states that may tell less -/
theorem ex_whl {t : Expr} {body : List Stmt} {pos : Pos} {rest : List Stmt} {K : Fl → Ms → Sto → Prop} (I : Nat → Ms → Sto → Prop) (n : Nat) {m0 : Ms} {σ0 : Sto} (hw : Wk m σ m0 σ0) (h0 : I n m0 σ0)
    (turn : ∀ n m σ, I n m σ → Et prog w S0 c t m σ fun x σ1 =>
      (x = true → Ex prog w S0 c body m σ1 fun F m' σ' => match F with
        | .next | .cont => ∃ k m0 σ0, k < n ∧ Wk m' σ' m0 σ0 ∧ I k m0 σ0
        | .brk => Ex prog w S0 c rest m' σ' K
        | .ret v => K (.ret v) m' σ') ∧
      (x = false → Ex prog w S0 c rest m σ1 K)) : Ex prog w S0 c (.While t body [] pos :: rest) m σ K := by
  refine Ex.wk hw (ex_cons (Ex1.of fun s R Q E k => wpAny_While ?_))
  refine codeAny_whileLoop (fun n s => ∃ m σ, Rel S0 (c.st m σ) s ∧ I n m σ) ?_ n ⟨m0, σ0, R, h0⟩
  rintro n s ⟨m, σ, R, hI⟩
  refine Et.get (turn n m σ hI) s R _ _ fun b σ1 s1 R1 h1 => ?_
  cases b
  · show wpAny _ _ (execs [] _) _ _ _
    refine wpAny_execs_nil ?_
    exact k .next .next m σ1 s1 R1 rfl (h1.2 rfl)
  · show wpAny _ _ (execs body _) _ _ _
    refine Ex.get (h1.1 rfl) s1 R1 _ _ fun f F m' σ' s' R' hf hk => ?_
    cases F with
    | next => obtain rfl : f = .next := hf; obtain ⟨j, m1, τ1, hj, hw, hi⟩ := hk; exact ⟨j, hj, m1, τ1, hw.imp s' R', hi⟩
    | cont => obtain rfl : f = .cont := hf; obtain ⟨j, m1, τ1, hj, hw, hi⟩ := hk; exact ⟨j, hj, m1, τ1, hw.imp s' R', hi⟩
    | brk => obtain rfl : f = .brk := hf; exact k .next .next m' σ' s' R' rfl hk
    | ret x => obtain ⟨v, rfl, hv⟩ := hf; exact k _ (.ret x) m' σ' s' R' ⟨v, rfl, hv⟩ hk

theorem turns_gen {P : Sto → Prop} {t : Expr} {body rest : List Stmt} {K : Fl → Ms → Sto → Prop} (Iv : List V → Ms → Sto → Prop) (hP : ∀ xs m T, Iv xs m T → P (c.st m T))
    (step : ∀ x xs m T, Iv (x :: xs) m T → ∀ p, Asg prog w S0 (c.push p) t x m T fun m1 τ1 => Ex prog w S0 (c.push p) body m1 τ1 fun F m' τ' => match F with
      | .next | .cont => ∃ m'' τ'', Wk m' τ' m'' τ'' ∧ Iv xs m'' τ''
      | .brk => Ex prog w S0 c rest m' τ' K
      | .ret v => K (.ret v) m' τ')
    (fin : ∀ m T, Iv [] m T → Ex prog w S0 c rest m T K) : ∀ xs m T, Iv xs m T → Turns prog w S0 c P t body rest K xs m T
  | [], m, T, h => ⟨hP _ _ _ h, fin _ _ h⟩
  | x :: xs, m, T, h => ⟨hP _ _ _ h, fun p v hv => Tr.mono (step x xs m T h p v hv) fun _ τ ⟨m', σ', hi, hk⟩ => ⟨m', σ', hi, Ex.mono hk fun F m1 τ1 hF => by
      cases F with
      | next => obtain ⟨m2, τ2, hw, hI⟩ := hF; exact ⟨m2, τ2, hw, turns_gen Iv hP step fin xs m2 τ2 hI⟩
      | cont => obtain ⟨m2, τ2, hw, hI⟩ := hF; exact ⟨m2, τ2, hw, turns_gen Iv hP step fin xs m2 τ2 hI⟩
      | brk => exact hF
      | ret v => exact hF⟩⟩

theorem Asg.mono {t : Expr} {x : V} {K K' : Ms → Sto → Prop} (h : Asg prog w S0 c t x m σ K) (k : ∀ m' σ', K m' σ' → K' m' σ') : Asg prog w S0 c t x m σ K' :=
  fun v hv => Tr.mono (h v hv) fun _ τ ⟨m', σ', hi, hk⟩ => ⟨m', σ', hi, k _ _ hk⟩
theorem Ev.mono {e : Expr} {K K' : V → Sto → Prop} (h : Ev prog w S0 c e m σ K) (k : ∀ v σ', K v σ' → K' v σ') : Ev prog w S0 c e m σ K' :=
  Tr.mono h fun _ τ ⟨v, σ', hz, hi, hk⟩ => ⟨v, σ', hz, hi, k _ _ hk⟩
theorem Et.mono {e : Expr} {K K' : Bool → Sto → Prop} (h : Et prog w S0 c e m σ K) (k : ∀ v σ', K v σ' → K' v σ') : Et prog w S0 c e m σ K' :=
  Tr.mono h fun _ τ ⟨σ', hi, hk⟩ => ⟨σ', hi, k _ _ hk⟩
theorem Tst.mono {es : List Expr} {σ : Sto} {K K' : Bool → Sto → Prop} (h : Tst prog w S0 c es m σ K) (k : ∀ v σ', K v σ' → K' v σ') : Tst prog w S0 c es m σ K' := by
  induction es generalizing σ with
  | nil => exact k _ _ h
  | cons e es ih => exact Et.mono h fun b σ' hb => ⟨fun e => ih (hb.1 e), fun e => k _ _ (hb.2 e)⟩

/-- a comprehension whose items are told by a function -/
theorem ct_gen {P : Sto → Prop} {t elt : Expr} {ifs : List Expr} {K : List V → Ms → Sto → Prop} (Iv : Sto → Prop) (pr : V → Bool) (g : V → V) (hP : ∀ T, Iv T → P (c.st [] T)) :
    ∀ (xs ys : List V) (T : Sto), Iv T → ys.length + xs.length ≤ sizeLine →
    (∀ x ∈ xs, ∀ T, Iv T → ∀ p q, Asg prog w S0 ((c.push q).push p) t x [] T fun m1 τ1 => Tst prog w S0 ((c.push q).push p) ifs m1 τ1 fun b τ2 => b = pr x ∧
      (b = true → Ev prog w S0 ((c.push q).push p) elt m1 τ2 fun y τ3 => y = g x ∧ ∃ T', T'.Sublist τ3 ∧ Iv T') ∧ (b = false → ∃ T', T'.Sublist τ2 ∧ Iv T')) →
    (∀ T, Iv T → K (ys ++ (xs.filter pr).map g) [] T) → CT prog w S0 c P t ifs elt K xs ys [] T
  | [], ys, T, hI, hl, turn, fin => ⟨hP _ hI, by have := fin T hI; simpa using this⟩
  | x :: xs, ys, T, hI, hl, turn, fin => by
    refine ⟨hP _ hI, by simp at hl; omega, fun p q => Asg.mono (turn x (.head _) T hI p q) fun m1 τ1 h1 => Tst.mono h1 fun b τ2 ⟨hb, h2, h3⟩ => ⟨fun e => Ev.mono (h2 e) fun y τ3 ⟨hy, T', hs, hI'⟩ => ?_, fun e => ?_⟩⟩
    · subst hy; subst hb
      refine ⟨[], T', ⟨fun _ _ h => (nomatch h), hs⟩, ct_gen Iv pr g hP xs (ys ++ [g x]) T' hI' (by simp at hl ⊢; omega) (fun x' hx' => turn x' (.tail _ hx')) fun T2 hT2 => ?_⟩
      have := fin T2 hT2
      rw [List.filter_cons, if_pos e, List.map_cons] at this
      rw [List.append_assoc]; exact this
    · subst hb
      obtain ⟨T', hs, hI'⟩ := h3 e
      refine ⟨[], T', ⟨fun _ _ h => (nomatch h), hs⟩, ct_gen Iv pr g hP xs ys T' hI' (by simp at hl ⊢; omega) (fun x' hx' => turn x' (.tail _ hx')) fun T2 hT2 => ?_⟩
      have := fin T2 hT2
      rw [List.filter_cons, if_neg (by rw [e]; decide)] at this
      exact this
/-- the same, without tests, in a store that stays -/
theorem ct_map {P : Sto → Prop} {t elt : Expr} {K : List V → Ms → Sto → Prop} (g : V → V) {xs : List V} {T : Sto} (hP : P (c.st [] T)) (hl : xs.length ≤ sizeLine)
    (turn : ∀ x ∈ xs, ∀ p q, Asg prog w S0 ((c.push q).push p) t x [] T fun m1 τ1 => Ev prog w S0 ((c.push q).push p) elt m1 τ1 fun y τ3 => y = g x ∧ T.Sublist τ3)
    (fin : K (xs.map g) [] T) : CT prog w S0 c P t [] elt K xs [] [] T :=
  ct_gen (fun T' => T' = T) (fun _ => true) g (fun T' h => h ▸ hP) xs [] T rfl (by simpa using hl) (fun x hx T' hT p q => by
    subst hT
    exact Asg.mono (turn x hx p q) fun m1 τ1 h1 => ⟨rfl, fun _ => Ev.mono h1 fun y τ3 ⟨a, b⟩ => ⟨a, T', b, rfl⟩, fun e => by cases e⟩) fun T' h => by subst h; rw [List.nil_append, List.filter_eq_self.mpr (fun _ _ => rfl)]; exact fin
theorem ct_filter {P : Sto → Prop} {t elt test : Expr} {K : List V → Ms → Sto → Prop} (pr : V → Bool) (g : V → V) {xs : List V} {T : Sto} (hP : P (c.st [] T)) (hl : xs.length ≤ sizeLine)
    (turn : ∀ x ∈ xs, ∀ p q, Asg prog w S0 ((c.push q).push p) t x [] T fun m1 τ1 => Et prog w S0 ((c.push q).push p) test m1 τ1 fun b τ2 => b = pr x ∧ T.Sublist τ2 ∧
      (b = true → Ev prog w S0 ((c.push q).push p) elt m1 τ2 fun y τ3 => y = g x ∧ T.Sublist τ3))
    (fin : K ((xs.filter pr).map g) [] T) : CT prog w S0 c P t [test] elt K xs [] [] T :=
  ct_gen (fun T' => T' = T) pr g (fun T' h => h ▸ hP) xs [] T rfl (by simpa using hl) (fun x hx T' hT p q => by
    subst hT
    refine Asg.mono (turn x hx p q) fun m1 τ1 h1 => Et.mono h1 fun b τ2 ⟨hb, hs, h2⟩ => ⟨fun e => ?_, fun e => ?_⟩
    · subst e; exact ⟨hb, fun e => Ev.mono (h2 e) fun y τ3 ⟨a, b⟩ => ⟨a, T', b, rfl⟩, fun e => by cases e⟩
    · subst e; exact ⟨hb, (fun e => by cases e), fun _ => ⟨T', hs, rfl⟩⟩) fun T' h => by subst h; simpa using fin
/-- over items told by any list -/
theorem ct_genA {α : Type} {P : Sto → Prop} {t elt : Expr} {ifs : List Expr} {K : List V → Ms → Sto → Prop} (f : α → V) (Iv : Sto → Prop) (pr : α → Bool) (g : α → V) (hP : ∀ T, Iv T → P (c.st [] T)) :
    ∀ (xs : List α) (ys : List V) (T : Sto), Iv T → ys.length + xs.length ≤ sizeLine →
    (∀ x ∈ xs, ∀ T, Iv T → ∀ p q, Asg prog w S0 ((c.push q).push p) t (f x) [] T fun m1 τ1 => Tst prog w S0 ((c.push q).push p) ifs m1 τ1 fun b τ2 => b = pr x ∧
      (b = true → Ev prog w S0 ((c.push q).push p) elt m1 τ2 fun y τ3 => y = g x ∧ ∃ T', T'.Sublist τ3 ∧ Iv T') ∧ (b = false → ∃ T', T'.Sublist τ2 ∧ Iv T')) →
    (∀ T, Iv T → K (ys ++ (xs.filter pr).map g) [] T) → CT prog w S0 c P t ifs elt K (xs.map f) ys [] T
  | [], ys, T, hI, hl, turn, fin => ⟨hP _ hI, by have := fin T hI; simpa using this⟩
  | x :: xs, ys, T, hI, hl, turn, fin => by
    refine ⟨hP _ hI, by simp at hl; omega, fun p q => Asg.mono (turn x (.head _) T hI p q) fun m1 τ1 h1 => Tst.mono h1 fun b τ2 ⟨hb, h2, h3⟩ => ⟨fun e => Ev.mono (h2 e) fun y τ3 ⟨hy, T', hs, hI'⟩ => ?_, fun e => ?_⟩⟩
    · subst hy; subst hb
      refine ⟨[], T', ⟨fun _ _ h => (nomatch h), hs⟩, ct_genA f Iv pr g hP xs (ys ++ [g x]) T' hI' (by simp at hl ⊢; omega) (fun x' hx' => turn x' (.tail _ hx')) fun T2 hT2 => ?_⟩
      have := fin T2 hT2
      rw [List.filter_cons, if_pos e, List.map_cons] at this
      rw [List.append_assoc]; exact this
    · subst hb
      obtain ⟨T', hs, hI'⟩ := h3 e
      refine ⟨[], T', ⟨fun _ _ h => (nomatch h), hs⟩, ct_genA f Iv pr g hP xs ys T' hI' (by simp at hl ⊢; omega) (fun x' hx' => turn x' (.tail _ hx')) fun T2 hT2 => ?_⟩
      have := fin T2 hT2
      rw [List.filter_cons, if_neg (by rw [e]; decide)] at this
      exact this
theorem ct_mapA {α : Type} {P : Sto → Prop} {t elt : Expr} {K : List V → Ms → Sto → Prop} (f g : α → V) {xs : List α} {T : Sto} (hP : P (c.st [] T)) (hl : xs.length ≤ sizeLine)
    (turn : ∀ x ∈ xs, ∀ p q, Asg prog w S0 ((c.push q).push p) t (f x) [] T fun m1 τ1 => Ev prog w S0 ((c.push q).push p) elt m1 τ1 fun y τ3 => y = g x ∧ T.Sublist τ3)
    (fin : K (xs.map g) [] T) : CT prog w S0 c P t [] elt K (xs.map f) [] [] T :=
  ct_genA f (fun T' => T' = T) (fun _ => true) g (fun T' h => h ▸ hP) xs [] T rfl (by simpa using hl) (fun x hx T' hT p q => by
    subst hT
    exact Asg.mono (turn x hx p q) fun m1 τ1 h1 => ⟨rfl, fun _ => Ev.mono h1 fun y τ3 ⟨a, b⟩ => ⟨a, T', b, rfl⟩, fun e => by cases e⟩) fun T' h => by subst h; rw [List.nil_append, List.filter_eq_self.mpr (fun _ _ => rfl)]; exact fin
theorem ct_filterA {α : Type} {P : Sto → Prop} {t elt test : Expr} {K : List V → Ms → Sto → Prop} (f : α → V) (pr : α → Bool) (g : α → V) {xs : List α} {T : Sto} (hP : P (c.st [] T)) (hl : xs.length ≤ sizeLine)
    (turn : ∀ x ∈ xs, ∀ p q, Asg prog w S0 ((c.push q).push p) t (f x) [] T fun m1 τ1 => Et prog w S0 ((c.push q).push p) test m1 τ1 fun b τ2 => b = pr x ∧ T.Sublist τ2 ∧
      (b = true → Ev prog w S0 ((c.push q).push p) elt m1 τ2 fun y τ3 => y = g x ∧ T.Sublist τ3))
    (fin : K ((xs.filter pr).map g) [] T) : CT prog w S0 c P t [test] elt K (xs.map f) [] [] T :=
  ct_genA f (fun T' => T' = T) pr g (fun T' h => h ▸ hP) xs [] T rfl (by simpa using hl) (fun x hx T' hT p q => by
    subst hT
    refine Asg.mono (turn x hx p q) fun m1 τ1 h1 => Et.mono h1 fun b τ2 ⟨hb, hs, h2⟩ => ⟨fun e => ?_, fun e => ?_⟩
    · subst e; exact ⟨hb, fun e => Ev.mono (h2 e) fun y τ3 ⟨a, b⟩ => ⟨a, T', b, rfl⟩, fun e => by cases e⟩
    · subst e; exact ⟨hb, (fun e => by cases e), fun _ => ⟨T', hs, rfl⟩⟩) fun T' h => by subst h; simpa using fin
end
end Mine
end

section
set_option maxRecDepth 100000
namespace Mine
abbrev pw : Program := PySem.Challenge.pw_sn0049_03
def stAt (i : Nat) : Stmt := (pw.main.body[i]?).getD (.Pass ⟨0, 0, 0, 0⟩)
def mkFd (st : Stmt) (q : Str) (pm cd dV kV : Value) : FuncData := match st with
  | .FunctionDef name args body _ _ _ scope _ _ _ => { name := name, qualname := q, params := args, body := .stmts body, scope := scope, globals := mainGlobals, closure := [], defaults := dV, kwdefaults := kV, pyModule := pm, code := cd, builtins := builtinsNs }
  | _ => default
def bodyOf : Stmt → List Stmt
  | .FunctionDef _ _ body .. => body
  | .ClassDef _ _ _ body .. => body
  | _ => []
def scopeOf : Stmt → Scope
  | .FunctionDef _ _ _ _ _ _ scope .. => scope
  | _ => default
def locals (s : Scope) : List Str := s.names.filterMap fun p => if p.2 = .local then some p.1 else .none
def stVarint : Stmt := stAt 9
def stB1 : Stmt := stAt 12
def stSubst : Stmt := stAt 6
def stLev : Stmt := stAt 7
def stClass : Stmt := stAt 18
def stUnseen : Stmt := stAt 20
def stOctets : Stmt := stAt 21
def stLetters : Stmt := stAt 22
def stOver : Stmt := stAt 23
def stApart : Stmt := stAt 24
def stLaw : Stmt := stAt 25
def meth (i : Nat) : Stmt := ((bodyOf stClass)[i]?).getD (.Pass ⟨0, 0, 0, 0⟩)
def aVarint : Addr := 59
def aB1 : Addr := 77
def aB1set : Addr := 67
def aSubst : Addr := 45
def aLev : Addr := 52
def aUnseen : Addr := 232
def aOctets : Addr := 237
def aLetters : Addr := 242
def aOver : Addr := 249
def aApart : Addr := 254
def aLaw : Addr := 259
def aClass : Addr := 221
/-- the signs of table B.1 that the text names -/
def b1 : List Int := [173, 847, 6150, 6155, 6156, 6157, 8203, 8204, 8205, 8288, 65279, 65024, 65025, 65026, 65027, 65028, 65029, 65030, 65031, 65032, 65033, 65034, 65035, 65036, 65037, 65038, 65039]

structure FnAt (S0 : Shared) (a : Addr) (st : Stmt) (q : Str) (dV kV : Value) : Prop where
  ex : ∃ o pm cd, S0.heap.get? a = some o ∧ o.data = .func (mkFd st q pm cd dV kV) ∧ S0.heap.CodeRec cd q

structure Hd (S0 : Shared) (mg mb : Str → Option Value) : Prop where
  B : Bs S0 mg mb
  no_ord : mg "ord" = .none
  no_chr : mg "chr" = .none
  no_next : mg "next" = .none
  no_len : mg "len" = .none
  no_min : mg "min" = .none
  no_max : mg "max" = .none
  no_sum : mg "sum" = .none
  no_iter : mg "iter" = .none
  no_range : mg "range" = .none
  no_list : mg "list" = .none
  no_type : mg "type" = .none
  no_str : mg "str" = .none
  g_in_table_b1 : mg "in_table_b1" = some (.ref aB1)
  g_b1_set : mg "b1_set" = some (.ref aB1set)
  g_parse_varint : mg "_parse_varint" = some (.ref aVarint)
  g_substitution_cost : mg "_substitution_cost" = some (.ref aSubst)
  g_levenshtein_distance : mg "_levenshtein_distance" = some (.ref aLev)
  g_law_unseen : mg "_law_unseen" = some (.ref aUnseen)
  g_law_octets : mg "_law_octets" = some (.ref aOctets)
  g_law_letters : mg "_law_letters" = some (.ref aLetters)
  g_law_over : mg "_law_over" = some (.ref aOver)
  g_law_apart : mg "_law_apart" = some (.ref aApart)
  g_CASE_COST : ∃ t, mg "_CASE_COST" = some (.int 1 t)
  g_MOVE_COST : ∃ t, mg "_MOVE_COST" = some (.int 2 t)
  g_MAX_STRING_SIZE : ∃ t, mg "_MAX_STRING_SIZE" = some (.int 40 t)
  f_varint : FnAt S0 aVarint stVarint "_parse_varint" .none .none
  f_b1 : FnAt S0 aB1 stB1 "in_table_b1" .none .none
  f_subst : FnAt S0 aSubst stSubst "_substitution_cost" .none .none
  f_lev : FnAt S0 aLev stLev "_levenshtein_distance" .none .none
  f_unseen : FnAt S0 aUnseen stUnseen "_law_unseen" .none .none
  f_octets : FnAt S0 aOctets stOctets "_law_octets" .none .none
  f_letters : FnAt S0 aLetters stLetters "_law_letters" .none .none
  f_over : FnAt S0 aOver stOver "_law_over" .none .none
  f_apart : FnAt S0 aApart stApart "_law_apart" .none .none
  b1set : ∃ o l, S0.heap.get? aB1set = some o ∧ setView o = some l ∧ ∀ i, l.contains i = b1.contains i
theorem boot_ord : bootBuiltins "ord" = some (.builtin "ord") := by kernel_rfl
theorem boot_chr : bootBuiltins "chr" = some (.builtin "chr") := by kernel_rfl
theorem boot_next : bootBuiltins "next" = some (.builtin "next") := by kernel_rfl
theorem boot_len : bootBuiltins "len" = some (.builtin "len") := by kernel_rfl
theorem boot_min : bootBuiltins "min" = some (.builtin "min") := by kernel_rfl
theorem boot_max : bootBuiltins "max" = some (.builtin "max") := by kernel_rfl
theorem boot_sum : bootBuiltins "sum" = some (.builtin "sum") := by kernel_rfl
theorem boot_iter : bootBuiltins "iter" = some (.builtin "iter") := by kernel_rfl
theorem boot_range : bootBuiltins "range" = some (.type "range") := by kernel_rfl
theorem boot_list : bootBuiltins "list" = some (.type "list") := by kernel_rfl
theorem boot_type : bootBuiltins "type" = some (.type "type") := by kernel_rfl
theorem boot_str : bootBuiltins "str" = some (.type "str") := by kernel_rfl

section
variable {w : World} {S0 : Shared} {c : Cx} {m : Ms} {σ : Sto} {K : V → Sto → Prop} {mg mb : Str → Option Value}
theorem FnAt.ok {a : Addr} {st : Stmt} {q : Str} {dV kV : Value} (h : FnAt S0 a st q dV kV) (hs : ∀ pm cd, (mkFd st q pm cd dV kV).scope = scopeOf st ∧ (mkFd st q pm cd dV kV).body = .stmts (bodyOf st) ∧ (mkFd st q pm cd dV kV).closure = [] ∧ (mkFd st q pm cd dV kV).globals = mainGlobals ∧
      (mkFd st q pm cd dV kV).builtins = builtinsNs ∧ (mkFd st q pm cd dV kV).qualname = q ∧ (mkFd st q pm cd dV kV).code = cd)
    (h1 : (scopeOf st).isCoroutine = false) (h2 : (scopeOf st).isGenerator = false) (h3 : (scopeOf st).kind = .function) (h4 : (locals (scopeOf st)).Nodup) (h5 : ((cellsFrom 0 (scopeOf st).names []).map (·.1)).Nodup) (h6 : ∀ p ∈ (scopeOf st).names, (scopeOf st).names.lookup p.1 = some p.2) :
    ∃ pm cd, FnOk S0 a (mkFd st q pm cd dV kV) (bodyOf st) (locals (scopeOf st)) := by
  obtain ⟨o, pm, cd, ho, hd, hc⟩ := h.ex
  obtain ⟨e1, e2, e3, e4, e5, e6, e7⟩ := hs pm cd
  refine ⟨pm, cd, ⟨o, ho, hd⟩, e2, by rw [e1]; exact h1, by rw [e1]; exact h2, by rw [e1]; exact h3, e3, e4, e5, by rw [e7, e6]; exact hc, h4, fun x hx => ?_, by rw [e1]; exact h5⟩
  rw [e1] at hx
  have hm := mem_of_lookup hx
  exact List.mem_filterMap.mpr ⟨(x, .local), hm, by simp⟩

theorem b1_ok (H : Hd S0 mg mb) : ∃ pm cd, FnOk S0 aB1 (mkFd stB1 "in_table_b1" pm cd .none .none) (bodyOf stB1) (locals (scopeOf stB1)) :=
  H.f_b1.ok (fun _ _ => ⟨rfl, rfl, rfl, rfl, rfl, rfl, rfl⟩) rfl rfl rfl (by decide +kernel) (by decide +kernel) (by decide +kernel)

theorem in_b1 (H : Hd S0 mg mb) (hroom : c.A.depth < recursionLimit) {n : Nat} (h : K (.bool (b1.contains (n : Int))) σ) : Cal pw w S0 c m σ (.ref aB1) [.str (one n)] [] K := by
  obtain ⟨pm, cd, FO⟩ := b1_ok H
  refine cal_def H.B FO hroom (binds_pos (ns := ["code"]) rfl (fun vs hv => ?_) ⟨by rfl, fun L => ?_⟩)
  · obtain ⟨v, rfl⟩ : ∃ v, vs = [v] := List.length_eq_one_iff.mp hv
    rfl
  · refine ex_ret ?_
    refine ev_cmp ?_
    refine ev_call ?_ -- ord(code)
    refine ev_blt H.B rfl rfl (by decide) H.no_ord boot_ord ?_
    refine ⟨kpr_blt, ?_⟩
    refine evs_cons ?_
    refine ev_loc (i := 0) rfl rfl rfl rfl ?_ -- code
    refine evs_nil ?_
    refine cal_ord ?_
    refine ev_glob (V0 := .ref aB1set) H.B rfl rfl H.g_b1_set rfl ?_
    obtain ⟨o, l, ho, hv, hl⟩ := H.b1set
    refine cmp_in_set ho hv ?_
    rw [hl]
    exact ⟨σ, Imp.rfl, h⟩
end
end Mine
end

section
set_option maxRecDepth 100000
namespace Mine
section
variable {w : World} {S0 : Shared} {c : Cx} {m : Ms} {σ : Sto} {K : V → Sto → Prop} {mg mb : Str → Option Value}

def unseenC (n : Int) : Nat := (b1.getD (n % 27).toNat 0).toNat
theorem unseen_ok (H : Hd S0 mg mb) : ∃ pm cd, FnOk S0 aUnseen (mkFd stUnseen "_law_unseen" pm cd .none .none) (bodyOf stUnseen) (locals (scopeOf stUnseen)) :=
  H.f_unseen.ok (fun _ _ => ⟨rfl, rfl, rfl, rfl, rfl, rfl, rfl⟩) rfl rfl rfl (by decide +kernel) (by decide +kernel) (by decide +kernel)

theorem unseen_lo : ∀ p : Fin 11, ([173, 847, 6150, 6155, 6156, 6157, 8203, 8204, 8205, 8288, 65279] : List Int)[p.1]? = some (b1.getD p.1 0) ∧ 0 ≤ b1.getD p.1 0 ∧ b1.getD p.1 0 ≤ 0x10FFFF := by decide +kernel
theorem unseen_hi : ∀ p : Fin 27, 11 ≤ p.1 → b1.getD p.1 0 = 65013 + (p.1 : Int) := by decide +kernel

theorem unseen (H : Hd S0 mg mb) (hroom : c.A.depth < recursionLimit) {n : Int} (h : K (.str (one (unseenC n))) σ) : Cal pw w S0 c m σ (.ref aUnseen) [.int n] [] K := by
  obtain ⟨pm, cd, FO⟩ := unseen_ok H
  have hp0 : 0 ≤ n % 27 := Int.emod_nonneg _ (by decide)
  have hp1 : n % 27 < 27 := Int.emod_lt_of_pos _ (by decide)
  have hf : n.fmod 27 = n % 27 := Int.fmod_eq_emod_of_nonneg _ (by decide)
  obtain ⟨p, hp⟩ : ∃ p : Nat, n % 27 = (p : Int) := ⟨(n % 27).toNat, by omega⟩
  have hu : unseenC n = (b1.getD p 0).toNat := by unfold unseenC; rw [hp]; rfl
  rw [hu] at h
  refine cal_def H.B FO hroom (binds_pos (ns := ["number"]) rfl (fun vs hv => ?_) ⟨by rfl, fun L => ?_⟩)
  · obtain ⟨v, rfl⟩ : ∃ v, vs = [v] := List.length_eq_one_iff.mp hv
    rfl
  · refine ex_assign ?_
    refine ev_list ?_
    iterate 11 (refine evs_cons ?_; refine ev_int ?_)
    refine evs_nil ?_
    refine ⟨by decide, fun a => ?_⟩
    refine sto_loc (i := 1) rfl rfl ?_ -- signs
    -- place = number % 27
    refine ex_assign ?_
    refine ev_bin ?_
    refine ev_loc (i := 0) rfl rfl rfl rfl ?_ -- number
    refine ev_int ?_ -- 27
    refine bin_mod (by decide) ?_
    rw [hf, hp]
    refine sto_loc (i := 2) rfl rfl ?_ -- place
    -- return chr(signs[place]) if place < 11 else chr(65013 + place)
    refine ex_ret ?_
    refine ev_if ?_ -- chr(signs[place]) if place < 11 else chr(65013 + place)
    refine et_cmp ?_ -- place < 11
    refine ev_loc (i := 2) rfl rfl rfl rfl ?_ -- place
    refine ev_int ?_ -- 11
    refine cmp_lt ?_
    refine tru_bool ?_
    refine ⟨fun ht => ?_, fun hf => ?_⟩
    · have ht : (p : Int) < 11 := of_decide_eq_true ht
      obtain ⟨q1, q2, q3⟩ := unseen_lo ⟨p, by omega⟩
      refine ev_call ?_ -- chr(signs[place])
      refine ev_blt H.B rfl rfl (by decide) H.no_chr boot_chr ?_
      refine ⟨kpr_blt, ?_⟩
      refine evs_cons ?_
      refine ev_sub ?_
      refine ev_loc (i := 1) rfl rfl rfl rfl ?_ -- signs
      refine ev_loc (i := 2) rfl rfl rfl rfl ?_ -- place
      refine sub_list (x := .int (b1.getD p 0)) (.head _) ?_ (by omega) (by decide) ?_ ?_
      · simp
      · have e : ix ([V.int 173, V.int 847, V.int 6150, V.int 6155, V.int 6156, V.int 6157, V.int 8203, V.int 8204, V.int 8205, V.int 8288, V.int 65279] : List V).length (p : Int) = p := by unfold ix; rw [if_neg (by omega)]; rfl
        rw [e]
        have := congrArg (Option.map V.int) q1
        rw [← List.getElem?_map] at this
        exact this
      refine evs_nil ?_
      refine cal_chr q2 q3 ?_
      exact ⟨σ, Imp.sub (by simp [Cx.st]), h⟩
    · have hf' : ¬ (p : Int) < 11 := of_decide_eq_false hf
      have q := unseen_hi ⟨p, by omega⟩ (by show 11 ≤ p; omega)
      dsimp only at q
      refine ev_call ?_ -- chr(65013 + place)
      refine ev_blt H.B rfl rfl (by decide) H.no_chr boot_chr ?_
      refine ⟨kpr_blt, ?_⟩
      refine evs_cons ?_
      refine ev_bin ?_
      refine ev_int ?_ -- 65013
      refine ev_loc (i := 2) rfl rfl rfl rfl ?_ -- place
      refine bin_add ?_
      refine evs_nil ?_
      refine cal_chr (by omega) (by omega) ?_
      rw [← q]
      exact ⟨σ, Imp.sub (by simp [Cx.st]), h⟩
end
end Mine
end

section
set_option maxRecDepth 100000
namespace Mine
section
variable {w : World} {S0 : Shared} {c : Cx} {m : Ms} {σ : Sto} {K : V → Sto → Prop} {mg mb : Str → Option Value}

/- octets -/
def figsAcc (l : Nat) (acc : List Nat) : List Nat := if h : l = 0 then acc else figsAcc (l / 64) ((64 + l % 64) :: acc)
termination_by l
decreasing_by omega
def octL (n : Nat) : List Nat := figsAcc (n / 64) [n % 64]
def octC (f : Nat) : Nat := if f = 45 then 45 else 128 + f
def octT (n : Nat) : List Nat := (octL n).map octC
theorem figsAcc_len (l : Nat) : ∀ acc, (figsAcc l acc).length ≤ acc.length + l := by
  induction l using Nat.strongRecOn with
  | ind l ih =>
    intro acc
    unfold figsAcc
    split
    · omega
    · have := ih (l / 64) (by omega) ((64 + l % 64) :: acc)
      simp at this
      omega
theorem figsAcc_lt (l : Nat) : ∀ acc, (∀ f ∈ acc, f < 128) → ∀ f ∈ figsAcc l acc, f < 128 := by
  induction l using Nat.strongRecOn with
  | ind l ih =>
    intro acc h
    unfold figsAcc
    split
    · exact h
    · refine ih (l / 64) (by omega) _ fun f hf => ?_
      rcases List.mem_cons.mp hf with rfl | hf
      · omega
      · exact h f hf
theorem octL_lt (n : Nat) : ∀ f ∈ octL n, f < 128 := figsAcc_lt _ _ fun f hf => by simp at hf; omega
theorem octL_len (n : Nat) : (octL n).length ≤ 1 + n := by have := figsAcc_len (n / 64) [n % 64]; simp at this; unfold octL; omega

theorem octets_ok (H : Hd S0 mg mb) : ∃ pm cd, FnOk S0 aOctets (mkFd stOctets "_law_octets" pm cd .none .none) (bodyOf stOctets) (locals (scopeOf stOctets)) :=
  H.f_octets.ok (fun _ _ => ⟨rfl, rfl, rfl, rfl, rfl, rfl, rfl⟩) rfl rfl rfl (by decide +kernel) (by decide +kernel) (by decide +kernel)
theorem fmod_nat (a b : Nat) : (a : Int).fmod (b : Int) = ((a % b : Nat) : Int) := by rw [Int.fmod_eq_emod_of_nonneg _ (Int.natCast_nonneg b)]; rfl
theorem fdiv_nat (a b : Nat) : (a : Int).fdiv (b : Int) = ((a / b : Nat) : Int) := by rw [Int.fdiv_eq_ediv_of_nonneg _ (Int.natCast_nonneg b)]; rfl

theorem octets (H : Hd S0 mg mb) (hroom : c.A.depth < recursionLimit) {n : Nat} (hn : n ≤ 900000) (h : K (.str (tx (octT n))) σ) : Cal pw w S0 c m σ (.ref aOctets) [.int n] [] K := by
  obtain ⟨pm, cd, FO⟩ := octets_ok H
  have f64 : ∀ k : Nat, (k : Int).fmod 64 = ((k % 64 : Nat) : Int) := fun k => fmod_nat k 64
  have d64 : ∀ k : Nat, (k : Int).fdiv 64 = ((k / 64 : Nat) : Int) := fun k => fdiv_nat k 64
  refine cal_def H.B FO hroom (binds_pos (ns := ["number"]) rfl (fun vs hv => ?_) ⟨by rfl, fun L => ?_⟩)
  · obtain ⟨v, rfl⟩ : ∃ v, vs = [v] := List.length_eq_one_iff.mp hv
    rfl
  -- figures = [number % 64]
  refine ex_assign ?_
  refine ev_list ?_
  refine evs_cons ?_
  refine ev_bin ?_
  refine ev_loc (i := 0) rfl rfl rfl rfl ?_ -- number
  refine ev_int ?_ -- 64
  refine bin_mod (by decide) ?_
  refine evs_nil ?_
  refine ⟨sz (by simp), fun a => ?_⟩
  refine sto_loc (i := 1) rfl rfl ?_ -- figures
  -- left = number // 64
  refine ex_assign ?_
  refine ev_bin ?_
  refine ev_loc (i := 0) rfl rfl rfl rfl ?_ -- number
  refine ev_int ?_ -- 64
  refine bin_div (by decide) (PyProof.noPylong_small (by decide)) ?_
  refine sto_loc (i := 2) rfl rfl ?_ -- left
  rw [f64, d64]
  -- while left > 0:
  refine ex_whl (fun k m0 τ0 => ∃ a acc, m0 = [(1, .ref a), (2, .int (k : Int))] ∧ τ0 = (a, .list (acc.map fun f : Nat => V.int (f : Int))) :: σ ∧ figsAcc k acc = octL n ∧ acc.length + k ≤ 1 + n) (n / 64)
    (m0 := [(1, .ref a), (2, .int ((n / 64 : Nat) : Int))]) (σ0 := (a, .list [.int ((n % 64 : Nat) : Int)]) :: σ) (.of ⟨rfl, rfl, trivial⟩ (.refl _)) ⟨a, [n % 64], rfl, rfl, rfl, by simp; omega⟩ ?_
  rintro k _ _ ⟨a, acc, rfl, rfl, hf, hlen⟩
  refine et_cmp ?_ -- left > 0
  refine ev_loc (i := 2) rfl rfl rfl rfl ?_ -- left
  refine ev_int ?_ -- 0
  refine cmp_gt ?_
  refine tru_bool ?_
  refine ⟨fun ht => ?_, fun hfl => ?_⟩
  · have hk : k ≠ 0 := by have := of_decide_eq_true ht; omega
    -- figures = [64 + left % 64] + figures
    refine ex_assign ?_
    refine ev_bin ?_
    refine ev_list ?_
    refine evs_cons ?_
    refine ev_bin ?_
    refine ev_int ?_ -- 64
    refine ev_bin ?_
    refine ev_loc (i := 2) rfl rfl rfl rfl ?_ -- left
    refine ev_int ?_ -- 64
    refine bin_mod (by decide) ?_
    refine bin_add ?_
    refine evs_nil ?_
    refine ⟨sz (by simp), fun a1 => ?_⟩
    refine ev_loc (i := 1) rfl rfl rfl rfl ?_ -- figures
    refine bin_lcat (.head _) (.tail _ (.head _)) (sz (by simp; omega)) fun a2 => ?_
    refine sto_loc (i := 1) rfl rfl ?_ -- figures
    -- left = left // 64
    refine ex_assign ?_
    refine ev_bin ?_
    refine ev_loc (i := 2) rfl rfl rfl rfl ?_ -- left
    refine ev_int ?_ -- 64
    refine bin_div (by decide) (PyProof.noPylong_small (by decide)) ?_
    refine sto_loc (i := 2) rfl rfl ?_ -- left
    rw [f64, d64]
    refine ex_nil ⟨k / 64, [(1, .ref a2), (2, .int ((k / 64 : Nat) : Int))], (a2, .list (((64 + k % 64) :: acc).map fun f : Nat => V.int (f : Int))) :: σ, by omega, .of ⟨rfl, rfl, trivial⟩ ?_, a2, (64 + k % 64) :: acc, rfl, rfl, ?_, ?_⟩
    · have e : [V.int ((64 : Int) + ((k % 64 : Nat) : Int))] ++ acc.map (fun f : Nat => V.int (f : Int)) = ((64 + k % 64) :: acc).map fun f : Nat => V.int (f : Int) := by simp
      rw [e]
      exact .cons_cons _ (.cons _ (.cons _ (.refl _)))
    · rw [← hf, figsAcc.eq_def k, dif_neg hk]
    · simp; omega
  · have hk : k = 0 := by have := of_decide_eq_false hfl; omega
    subst hk
    have hf : acc = octL n := by rw [← hf]; unfold figsAcc; simp
    subst hf
    have hlen' := octL_len n
    -- return
    refine ex_ret ?_
    refine ev_meth ?_
    refine ev_str ?_ -- ''
    refine mth_join ?_
    refine ⟨kpr_blt, ?_⟩
    refine evs_cons ?_
    refine ev_comp (cl := []) (names := [".0", "figure"]) (nd := by decide +kernel) rfl (by decide +kernel) (by decide +kernel) rfl ?_
    refine ev_loc (i := 1) rfl rfl rfl rfl ?_ -- figures
    refine ⟨_, _, itb_list, .tail _ (List.mem_append_right _ (.head _)), fun L => ?_⟩
    refine ct_map (fun v => match v with | .int f => .str (one (octC f.toNat)) | _ => .none) (.tail _ (List.mem_append_right _ (.head _))) (sz (by simp; omega)) (fun x hx p q => ?_) ?_
    · obtain ⟨f, hf, rfl⟩ := List.mem_map.mp hx
      have hlt := octL_lt n f hf
      refine asg_name (sto_loc (i := 1) rfl rfl ?_)
      refine ev_if ?_ -- chr(figure) if figure == 45 else chr(128 + figure)
      refine et_cmp ?_ -- figure == 45
      refine ev_loc (i := 1) rfl rfl rfl rfl ?_ -- figure
      refine ev_int ?_ -- 45
      refine cmp_eq ?_
      refine tru_bool ?_
      refine ⟨fun ht => ?_, fun hf => ?_⟩
      · have e : f = 45 := by have := eq_of_beq ht; omega
        subst e
        refine ev_call ?_ -- chr(figure)
        refine ev_blt H.B rfl rfl (by decide) H.no_chr boot_chr ?_
        refine ⟨kpr_blt, ?_⟩
        refine evs_cons ?_
        refine ev_loc (i := 1) rfl rfl rfl rfl ?_ -- figure
        refine evs_nil ?_
        refine cal_chr (by decide) (by decide) ?_
        exact ⟨rfl, .refl _⟩
      · have e : f ≠ 45 := by rintro rfl; simp at hf
        refine ev_call ?_ -- chr(128 + figure)
        refine ev_blt H.B rfl rfl (by decide) H.no_chr boot_chr ?_
        refine ⟨kpr_blt, ?_⟩
        refine evs_cons ?_
        refine ev_bin ?_
        refine ev_int ?_ -- 128
        refine ev_loc (i := 1) rfl rfl rfl rfl ?_ -- figure
        refine bin_add ?_
        refine evs_nil ?_
        refine cal_chr (by omega) (by omega) ?_
        refine ⟨?_, .refl _⟩
        simp only [Int.toNat_natCast]
        unfold octC
        rw [if_neg e]
        congr 2
    · refine ⟨_, .refl _, fun b => ?_⟩
      refine evs_nil ?_
      have e : ((octL n).map fun f : Nat => V.int (f : Int)).map (fun v => match v with | .int f => V.str (one (octC f.toNat)) | _ => .none) = (((octT n).map fun f => [f]).map tx).map V.str := by
        unfold octT
        rw [List.map_map, List.map_map, List.map_map, List.map_map]
        rfl
      rw [e]
      refine cal_join (.tail _ (List.mem_append_right _ (.head _))) ?_ ?_
      · refine join_ok0 1 (fun l hl => ?_) ?_
        · obtain ⟨f, _, rfl⟩ := List.mem_map.mp hl; exact Nat.le_refl _
        · unfold octT; simp; omega
      · rw [join_tx, flat_ones]
        exact ret_sub (by repeat (first | exact .refl _ | refine .cons _ ?_)) h
end
end Mine
end

section
set_option maxRecDepth 100000
namespace Mine
section
variable {w : World} {S0 : Shared} {c : Cx} {m : Ms} {σ : Sto} {K : V → Sto → Prop} {mg mb : Str → Option Value}

theorem band_nat (a b : Nat) : Builtin.bitAnd (a : Int) (b : Int) = ((a &&& b : Nat) : Int) := by
  rw [bitAnd_pp (Int.natCast_nonneg a) (Int.natCast_nonneg b)]; simp
theorem band63 (a : Nat) : Builtin.bitAnd (a : Int) 63 = ((a % 64 : Nat) : Int) := by
  have := band_nat a 63
  rw [show ((63 : Nat) : Int) = 63 from rfl] at this
  rw [this, show (63 : Nat) = 2 ^ 6 - 1 from rfl, Nat.and_two_pow_sub_one_eq_mod]
theorem band64 (a : Nat) : Builtin.bitAnd (a : Int) 64 = ((a / 64 % 2 * 64 : Nat) : Int) := by
  have := band_nat a 64
  rw [show ((64 : Nat) : Int) = 64 from rfl] at this
  rw [this]
  congr 1
  have e1 : (a &&& 64) / 2 ^ 6 = a / 2 ^ 6 &&& 64 / 2 ^ 6 := Nat.and_div_two_pow
  have e2 : (a &&& 64) % 2 ^ 6 = (a % 2 ^ 6) &&& (64 % 2 ^ 6) := Nat.and_mod_two_pow
  rw [show 64 / 2 ^ 6 = 1 from rfl, Nat.and_one_is_mod] at e1
  rw [show 64 % 2 ^ 6 = 0 from rfl, Nat.and_zero] at e2
  omega
theorem and_low (k y : Nat) (h : y < 64) : (k * 64) &&& y = 0 := by
  apply Nat.eq_of_testBit_eq
  intro i
  rw [Nat.testBit_and, Nat.zero_testBit, show k * 64 = 2 ^ 6 * k from Nat.mul_comm _ _, Nat.testBit_two_pow_mul]
  by_cases hi : 6 ≤ i
  · have : y.testBit i = false := Nat.testBit_lt_two_pow (Nat.lt_of_lt_of_le h (Nat.pow_le_pow_right (by decide) hi : 2 ^ 6 ≤ 2 ^ i))
    rw [this, Bool.and_false]
  · simp [hi]
theorem bor_low (k y : Nat) (h : y < 64) : Builtin.bitOr ((k * 64 : Nat) : Int) (y : Int) = ((k * 64 + y : Nat) : Int) := by
  rw [bitOr_and, band_nat, and_low k y h]; simp

/-- what a tape of octets tells, from a value so far on -/
def vd (v : Nat) : List Nat → Option (Nat × List Nat)
  | [] => .none
  | b :: r => if b / 64 % 2 = 1 then vd (v * 64 + b % 64) r else some (v * 64 + b % 64, r)
theorem vd_le : ∀ (r : List Nat) (v V : Nat) (rest : List Nat), vd v r = some (V, rest) → v ≤ V
  | [], _, _, _, h => by cases h
  | b :: r, v, V, rest, h => by
    unfold vd at h
    split at h
    · have := vd_le r _ _ _ h; omega
    · cases h; omega

theorem varint_ok (H : Hd S0 mg mb) : ∃ pm cd, FnOk S0 aVarint (mkFd stVarint "_parse_varint" pm cd .none .none) (bodyOf stVarint) (locals (scopeOf stVarint)) :=
  H.f_varint.ok (fun _ _ => ⟨rfl, rfl, rfl, rfl, rfl, rfl, rfl⟩) rfl rfl rfl (by decide +kernel) (by decide +kernel) (by decide +kernel)
theorem nat_ints {bs : List Nat} {i : Nat} {b : Nat} (h : bs[i]? = some b) : (bs.map fun b : Nat => V.int (b : Int))[i]? = some (.int (b : Int)) := by rw [List.getElem?_map, h]; rfl

theorem varint (H : Hd S0 mg mb) (hroom : c.A.depth < recursionLimit) {it l : Addr} {bs : List Nat} {i j v : Nat} (S : Nat → Sto) (hS : ∀ a b, Upd it (.liter l a) (.liter l b) (S a) (S b)) (hl : ∀ a, (l, O.list (bs.map fun b : Nat => V.int (b : Int))) ∈ S a)
    (hv : vd 0 (bs.drop i) = some (v, bs.drop j)) (hj : j ≤ bs.length) (hb : v < 2 ^ 60) (h : K (.int v) (S j)) : Cal pw w S0 c m (S i) (.ref aVarint) [.ref it] [] K := by
  obtain ⟨pm, cd, FO⟩ := varint_ok H
  refine cal_def H.B FO hroom (binds_pos (ns := ["iterator"]) rfl (fun vs hv => ?_) ⟨by rfl, fun L => ?_⟩)
  · obtain ⟨v, rfl⟩ : ∃ v, vs = [v] := List.length_eq_one_iff.mp hv
    rfl
  have dropc : ∀ i b, bs[i]? = some b → bs.drop i = b :: bs.drop (i + 1) := fun i b hb => by
    obtain ⟨hlt, e⟩ := List.getElem?_eq_some_iff.mp hb
    rw [List.drop_eq_getElem_cons hlt, e]
  have some_of : ∀ i v V r, vd v (bs.drop i) = some (V, r) → ∃ b, bs[i]? = some b := fun i v V r hh => by
    cases hi : bs[i]? with
    | some b => exact ⟨b, rfl⟩
    | none =>
      rw [List.drop_eq_nil_of_le (by simpa using hi)] at hh; cases hh
  obtain ⟨b0, hb0⟩ := some_of _ _ _ _ hv
  -- b = next(iterator)
  refine ex_assign ?_
  refine ev_call ?_ -- next(iterator)
  refine ev_blt H.B rfl rfl (by decide) H.no_next boot_next ?_
  refine ⟨kpr_blt, ?_⟩
  refine evs_cons ?_
  refine ev_loc (i := 0) rfl rfl rfl rfl ?_ -- iterator
  refine evs_nil ?_
  refine cal_next (mem_st (hl i)) (hS i (i + 1)) (nat_ints hb0) ?_
  refine sto_loc (i := 1) rfl rfl ?_ -- b
  -- val = b & 63
  refine ex_assign ?_
  refine ev_bin ?_
  refine ev_loc (i := 1) rfl rfl rfl rfl ?_ -- b
  refine ev_int ?_ -- 63
  refine bin_and ?_
  rw [band63]
  refine sto_loc (i := 2) rfl rfl ?_ -- val
  -- while b & 64:
  refine ex_whl (fun n m0 τ0 => ∃ (k b u : Nat), n = bs.length - k ∧ m0 = [(0, .ref it), (1, .int (b : Int)), (2, .int (u : Int))] ∧ τ0 = S k ∧ (if b / 64 % 2 = 1 then vd u (bs.drop k) = some (v, bs.drop j) else u = v ∧ bs.drop k = bs.drop j) ∧ u ≤ v ∧ k ≤ bs.length) (bs.length - (i + 1))
    (m0 := [(0, .ref it), (1, .int (b0 : Int)), (2, .int ((b0 % 64 : Nat) : Int))]) (σ0 := S (i + 1)) (.of ⟨rfl, rfl, rfl, trivial⟩ (.refl _)) ⟨i + 1, b0, b0 % 64, rfl, rfl, rfl, ?_, ?_, ?_⟩ ?_
  · rw [dropc i b0 hb0] at hv
    unfold vd at hv
    rw [Nat.zero_mul, Nat.zero_add] at hv
    split at hv
    · rename_i hc; rw [if_pos hc]; exact hv
    · rename_i hc; rw [if_neg hc]; exact Prod.mk.inj (Option.some.inj hv)
  · rw [dropc i b0 hb0] at hv
    unfold vd at hv
    rw [Nat.zero_mul, Nat.zero_add] at hv
    split at hv
    · exact vd_le _ _ _ _ hv
    · exact Nat.le_of_eq (Prod.mk.inj (Option.some.inj hv)).1
  · have := (List.getElem?_eq_some_iff.mp hb0).1; omega
  rintro n _ _ ⟨k, b, u, rfl, rfl, rfl, hI, hu, hk⟩
  refine et_plain ?_ -- b & 64
  refine ev_bin ?_
  refine ev_loc (i := 1) rfl rfl rfl rfl ?_ -- b
  refine ev_int ?_ -- 64
  refine bin_and ?_
  rw [band64]
  refine tru_int ?_
  refine ⟨fun ht => ?_, fun hf => ?_⟩
  · have hc : b / 64 % 2 = 1 := by
      have : ((b / 64 % 2 * 64 : Nat) : Int) ≠ 0 := by simpa using ht
      omega
    rw [if_pos hc] at hI
    obtain ⟨b1, hb1⟩ := some_of _ _ _ _ hI
    have hlt1 := (List.getElem?_eq_some_iff.mp hb1).1
    -- val <<= 6
    refine ex_aug ?_
    refine ld_loc (i := 2) rfl rfl rfl rfl ?_
    refine ev_int ?_ -- 6
    refine ibin_shl (by decide) (by decide) (by omega) ?_
    refine sto_loc (i := 2) rfl rfl ?_ -- val
    -- b = next(iterator)
    refine ex_assign ?_
    refine ev_call ?_ -- next(iterator)
    refine ev_blt H.B rfl rfl (by decide) H.no_next boot_next ?_
    refine ⟨kpr_blt, ?_⟩
    refine evs_cons ?_
    refine ev_loc (i := 0) rfl rfl rfl rfl ?_ -- iterator
    refine evs_nil ?_
    refine cal_next (mem_st (hl k)) (hS k (k + 1)) (nat_ints hb1) ?_
    refine sto_loc (i := 1) rfl rfl ?_ -- b
    -- val |= b & 63
    refine ex_aug ?_
    refine ld_loc (i := 2) rfl rfl rfl rfl ?_
    refine ev_bin ?_
    refine ev_loc (i := 1) rfl rfl rfl rfl ?_ -- b
    refine ev_int ?_ -- 63
    refine bin_and ?_
    rw [band63]
    refine ibin_or ?_
    rw [show (u : Int) * 2 ^ (6 : Int).toNat = ((u * 64 : Nat) : Int) by rw [Int.natCast_mul]; rfl, bor_low _ _ (Nat.mod_lt _ (by decide))]
    refine sto_loc (i := 2) rfl rfl ?_ -- val
    rw [dropc k b1 hb1] at hI
    unfold vd at hI
    refine ex_nil ⟨bs.length - (k + 1), [(0, .ref it), (1, .int (b1 : Int)), (2, .int ((u * 64 + b1 % 64 : Nat) : Int))], S (k + 1), by omega, .of ⟨rfl, rfl, rfl, trivial⟩ (.refl _), k + 1, b1, u * 64 + b1 % 64, rfl, rfl, rfl, ?_, ?_, by omega⟩
    · split at hI
      · rename_i hc; rw [if_pos hc]; exact hI
      · rename_i hc; rw [if_neg hc]; exact Prod.mk.inj (Option.some.inj hI)
    · split at hI
      · exact vd_le _ _ _ _ hI
      · exact Nat.le_of_eq (Prod.mk.inj (Option.some.inj hI)).1
  · have hc : ¬ b / 64 % 2 = 1 := by
      have : ((b / 64 % 2 * 64 : Nat) : Int) = 0 := by simpa using hf
      omega
    rw [if_neg hc] at hI
    obtain ⟨rfl, hd⟩ := hI
    have : k = j := by
      have := congrArg List.length hd
      simp at this; omega
    subst this
    -- return val
    refine ex_ret ?_
    refine ev_loc (i := 2) rfl rfl rfl rfl ?_ -- val
    exact ret_sub (.refl _) h
end
end Mine
end

section
set_option maxRecDepth 100000
namespace Mine
section
variable {w : World} {S0 : Shared} {c : Cx} {m : Ms} {σ : Sto} {K : V → Sto → Prop} {mg mb : Str → Option Value}

theorem len2 {α : Type} {l : List α} (h : l.length = 2) : ∃ a b, l = [a, b] := by
  match l, h with
  | [a, b], _ => exact ⟨a, b, rfl⟩
theorem len3 {α : Type} {l : List α} (h : l.length = 3) : ∃ a b c, l = [a, b, c] := by
  match l, h with
  | [a, b, c], _ => exact ⟨a, b, c, rfl⟩
/- _substitution_cost -/
def Okc (n : Nat) : Prop := PySem.Txt.lower (one n) = one (lo1 n)
theorem Okc.ascii {n : Nat} (h : n < 128) : Okc n := by
  unfold Okc
  rw [one_tx, lower_tx fun c hc => by simp at hc; omega]
  rfl
def subC (a b : Nat) : Nat := if a = b then 0 else if lo1 a = lo1 b then 1 else 2
theorem one_beq (a b : Nat) : (one a == one b) = (a == b) := by
  rw [one_tx, one_tx, tx_beq, Bool.eq_iff_iff]; simp
theorem subst_ok (H : Hd S0 mg mb) : ∃ pm cd, FnOk S0 aSubst (mkFd stSubst "_substitution_cost" pm cd .none .none) (bodyOf stSubst) (locals (scopeOf stSubst)) :=
  H.f_subst.ok (fun _ _ => ⟨rfl, rfl, rfl, rfl, rfl, rfl, rfl⟩) rfl rfl rfl (by decide +kernel) (by decide +kernel) (by decide +kernel)
theorem len_one (a : Nat) : (one a).length = 1 := rfl
theorem subst (H : Hd S0 mg mb) (hroom : c.A.depth < recursionLimit) {a b : Nat} (ha : Okc a) (hb : Okc b) (h : K (.int (subC a b)) σ) : Cal pw w S0 c m σ (.ref aSubst) [.str (one a), .str (one b)] [] K := by
  obtain ⟨pm, cd, FO⟩ := subst_ok H
  refine cal_def H.B FO hroom (binds_pos (ns := ["ch_a", "ch_b"]) rfl (fun vs hv => ?_) ⟨by rfl, fun L => ?_⟩)
  · obtain ⟨v, u, rfl⟩ := len2 hv
    rfl
  -- if ch_a == ch_b:
  refine ex_if ?_
  refine et_cmp ?_ -- ch_a == ch_b
  refine ev_loc (i := 0) rfl rfl rfl rfl ?_ -- ch_a
  refine ev_loc (i := 1) rfl rfl rfl rfl ?_ -- ch_b
  refine cmp_seq ?_
  refine tru_bool ?_
  rw [one_beq]
  refine ⟨fun ht => ?_, fun hf => ?_⟩
  · have e : a = b := eq_of_beq ht
    subst e
    -- return 0
    refine ex_ret ?_
    refine ev_int ?_ -- 0
    refine ret_sub (m' := []) (.refl _) ?_
    unfold subC at h; rw [if_pos rfl] at h; exact h
  refine ex_nil ?_
  have hne : a ≠ b := fun e => by subst e; simp at hf
  -- if ch_a.lower() == ch_b.lower():
  refine ex_if ?_
  refine et_cmp ?_ -- ch_a.lower() == ch_b.lower()
  refine ev_meth ?_ -- ch_a.lower()
  refine ev_loc (i := 0) rfl rfl rfl rfl ?_ -- ch_a
  refine mth_lower ?_
  refine ⟨kpr_blt, ?_⟩
  refine evs_nil ?_
  refine cal_lower (by rw [len_one]; decide) ?_
  rw [ha]
  refine ev_meth ?_ -- ch_b.lower()
  refine ev_loc (i := 1) rfl rfl rfl rfl ?_ -- ch_b
  refine mth_lower ?_
  refine ⟨kpr_blt, ?_⟩
  refine evs_nil ?_
  refine cal_lower (by rw [len_one]; decide) ?_
  rw [hb]
  refine cmp_seq ?_
  refine tru_bool ?_
  rw [one_beq]
  refine ⟨fun ht => ?_, fun hf => ?_⟩
  · -- return _CASE_COST
    refine ex_ret ?_
    obtain ⟨t, ht'⟩ := H.g_CASE_COST
    refine ev_glob (V0 := .int 1) H.B rfl rfl ht' ⟨_, rfl⟩ ?_
    refine ret_sub (m' := []) (.refl _) ?_
    unfold subC at h; rw [if_neg hne, if_pos (eq_of_beq ht)] at h; exact h
  refine ex_nil ?_
  -- return _MOVE_COST
  refine ex_ret ?_
  obtain ⟨t, ht'⟩ := H.g_MOVE_COST
  refine ev_glob (V0 := .int 2) H.B rfl rfl ht' ⟨_, rfl⟩ ?_
  refine ret_sub (m' := []) (.refl _) ?_
  unfold subC at h; rw [if_neg hne, if_neg (fun e => by rw [e] at hf; simp at hf)] at h; exact h

/- _law_spelled -/
theorem shr_nat (k j : Nat) : (k : Int).fdiv (2 ^ ((j : Int)).toNat) = ((k / 2 ^ j : Nat) : Int) := by
  rw [Int.toNat_natCast]
  have e : (2 : Int) ^ j = ((2 ^ j : Nat) : Int) := by simp
  rw [e, fdiv_nat]
theorem band1 (a : Nat) : Builtin.bitAnd (a : Int) 1 = ((a % 2 : Nat) : Int) := by
  have := band_nat a 1
  rw [show ((1 : Nat) : Int) = 1 from rfl] at this
  rw [this, Nat.and_one_is_mod]
theorem ix_nat (n j : Nat) : ix n (j : Int) = j := by unfold ix; rw [if_neg (by omega)]; rfl
theorem range3 : (List.range 3).map (fun j : Nat => V.int (0 + (j : Int) * 1)) = (List.range 3).map fun j : Nat => V.int (j : Int) := by
  apply List.map_congr_left; intro j _; simp
end
end Mine
end

section
set_option maxRecDepth 100000
namespace Mine
/- _levenshtein_distance: what it tells -/
def preL : List Nat → List Nat → Nat
  | x :: xs, y :: ys => if x = y then 1 + preL xs ys else 0
  | _, _ => 0
def sufL (a b : List Nat) : Nat := preL a.reverse b.reverse
def maxI : Int := 9223372036854775807
def inner (bc : Nat) : List (Nat × Int) → Int → Int → Int → List Int × Int × Int
  | [], _, r, mn => ([], r, mn)
  | (ac, rv) :: t, d, r, mn =>
    let r' := min (min r rv + 2) (d + (subC bc ac : Nat))
    let x := inner bc t rv r' (if r' < mn then r' else mn)
    (r' :: x.1, x.2.1, x.2.2)
def outer (a : List Nat) (mc : Int) : Nat → List Nat → List Int → Int → Int
  | _, [], _, r => r
  | k, bc :: t, row, _ =>
    let x := inner bc (a.zip row) (2 * (k : Int)) (2 * (k : Int)) maxI
    if x.2.2 > mc then mc + 1 else outer a mc (k + 1) t x.1 x.2.1
def row0 (n : Nat) : List Int := (List.range n).map fun j : Nat => 2 + (j : Int) * 2
def levT (a b : List Nat) (mc : Int) : Int := if ((b.length : Int) - a.length) * 2 > mc then mc + 1 else outer a mc 0 b (row0 a.length) 0
def levM (a b : List Nat) (mc : Int) : Int :=
  if a = [] ∨ b = [] then 2 * ((a.length : Int) + b.length)
  else if a.length > 40 ∨ b.length > 40 then mc + 1
  else if b.length < a.length then levT b a mc else levT a b mc
def levS2 (a b : List Nat) (mc : Int) : Int := levM (a.take (a.length - sufL a b)) (b.take (b.length - sufL a b)) mc
def levF (a b : List Nat) (mc : Int) : Int := if a = b then 0 else levS2 (a.drop (preL a b)) (b.drop (preL a b)) mc

theorem clip_nat (n k : Nat) : clipAt n (k : Int) = min k n := by
  have := clipAt_cast n (k : Int)
  rw [if_neg (by omega)] at this
  omega
theorem cut_from (l : List Nat) (k : Nat) : cut l (some (k : Int)) .none = l.drop k := by
  unfold cut
  simp only [Option.elim_some, Option.elim_none]
  rw [clip_nat, List.take_of_length_le (by simp)]
  rcases Nat.le_total k l.length with h | h
  · rw [Nat.min_eq_left h]
  · rw [Nat.min_eq_right h, List.drop_eq_nil_of_le h, List.drop_length]
theorem cut_to (l : List Nat) (q : Nat) (h0 : 0 < q) (hq : q ≤ l.length) : cut l .none (some (-(q : Int))) = l.take (l.length - q) := by
  unfold cut
  simp only [Option.elim_some, Option.elim_none, List.drop_zero, Nat.sub_zero]
  have := clipAt_cast l.length (-(q : Int))
  rw [if_pos (by omega)] at this
  congr 1
  omega
theorem cut_all (l : List Nat) : cut l .none .none = l := by unfold cut; simp
theorem preL_le : ∀ a b : List Nat, preL a b ≤ a.length ∧ preL a b ≤ b.length
  | [], _ => by simp [preL]
  | _ :: _, [] => by simp [preL]
  | x :: xs, y :: ys => by
    have := preL_le xs ys
    unfold preL
    split <;> simp <;> omega
theorem preL_drop (a b : List Nat) (k : Nat) (x y : Nat) (ha : a[k]? = some x) (hb : b[k]? = some y) (h : preL a b = k + preL (a.drop k) (b.drop k)) : if x = y then preL a b = (k + 1) + preL (a.drop (k + 1)) (b.drop (k + 1)) else preL a b = k := by
  obtain ⟨h1, e1⟩ := List.getElem?_eq_some_iff.mp ha
  obtain ⟨h2, e2⟩ := List.getElem?_eq_some_iff.mp hb
  rw [List.drop_eq_getElem_cons h1, List.drop_eq_getElem_cons h2, e1, e2] at h
  have e0 : ∀ xs ys : List Nat, preL (x :: xs) (y :: ys) = if x = y then 1 + preL xs ys else 0 := fun _ _ => rfl
  rw [e0] at h
  split
  · rename_i e; rw [if_pos e] at h; omega
  · rename_i e; rw [if_neg e] at h; omega
section
variable {w : World} {S0 : Shared} {c : Cx} {m : Ms} {σ : Sto} {K : Fl → Ms → Sto → Prop} {mg mb : Str → Option Value}
theorem lev_ok (H : Hd S0 mg mb) : ∃ pm cd, FnOk S0 aLev (mkFd stLev "_levenshtein_distance" pm cd .none .none) (bodyOf stLev) (locals (scopeOf stLev)) :=
  H.f_lev.ok (fun _ _ => ⟨rfl, rfl, rfl, rfl, rfl, rfl, rfl⟩) rfl rfl rfl (by decide +kernel) (by decide +kernel) (by decide +kernel)
abbrev levC (c : Cx) (m : Ms) (L : Addr) {pm cd : Value} (FO : FnOk S0 aLev (mkFd stLev "_levenshtein_distance" pm cd .none .none) (bodyOf stLev) (locals (scopeOf stLev))) : Cx :=
  c.into m (mkFd stLev "_levenshtein_distance" pm cd .none .none) aLev L (locals (scopeOf stLev)) FO.kind FO.glob FO.blt FO.nd
def levB (k : Nat) : List Stmt := (bodyOf stLev).drop k

theorem tru_tx {l : List Nat} {K : Bool → Sto → Prop} (hs : l.length ≤ 1000000) (h : K (decide (l ≠ [])) σ) : Tru pw w S0 c m σ (.str (tx l)) K := by
  refine tru_str (by rw [len_tx]; omega) ?_
  rw [len_tx]
  have : ((l.length : Int) != 0) = decide (l ≠ []) := by
    cases l with
    | nil => rfl
    | cons a l => simp; omega
  rw [this]; exact h

variable {pm cd : Value} {L : Addr} (FO : FnOk S0 aLev (mkFd stLev "_levenshtein_distance" pm cd .none .none) (bodyOf stLev) (locals (scopeOf stLev)))
theorem lev_pre {a b : List Nat} {mc : Int} (ha : a.length ≤ 1000000) (hb : b.length ≤ 1000000) (h : Ex pw w S0 (levC c m L FO) (levB 3) [(0, .str (tx a)), (1, .str (tx b)), (2, .int mc), (3, .int (preL a b))] σ K) :
    Ex pw w S0 (levC c m L FO) (levB 2) [(3, .int 0), (0, .str (tx a)), (1, .str (tx b)), (2, .int mc)] σ K := by
  refine ex_whl (fun n m0 τ0 => ∃ k : Nat, n = a.length - k ∧ k ≤ a.length ∧ m0 = [(0, .str (tx a)), (1, .str (tx b)), (2, .int mc), (3, .int (k : Int))] ∧ σ = τ0 ∧ preL a b = k + preL (a.drop k) (b.drop k)) a.length
    (m0 := [(0, .str (tx a)), (1, .str (tx b)), (2, .int mc), (3, .int ((0 : Nat) : Int))]) (σ0 := σ) (.of ⟨rfl, rfl, rfl, rfl, trivial⟩ (.refl _)) ⟨0, rfl, Nat.zero_le _, rfl, rfl, by simp⟩ ?_
  rintro n _ _ ⟨k, rfl, hk, rfl, rfl, hp⟩
  have fin : preL a b = k → Ex pw w S0 (levC c m L FO) (levB 3) [(0, .str (tx a)), (1, .str (tx b)), (2, .int mc), (3, .int (k : Int))] σ K := fun e => by rw [← e]; exact h
  refine et_and ?_
  refine et_plain ?_ -- a[pre:]
  refine ev_sslice ?_
  refine ev_loc (i := 0) rfl rfl rfl rfl ?_ -- a
  refine pt_some ?_
  refine ev_loc (i := 3) rfl rfl rfl rfl ?_ -- pre
  refine .inl ⟨_, rfl, ?_⟩
  refine pt_none ?_
  refine ⟨_, rfl, sz (by rw [len_tx]; exact ha), ?_⟩
  rw [slice_tx, cut_from]
  refine tru_tx (by simp; omega) ?_
  refine ⟨fun h1 => ?_, fun h1 => ⟨fun e => (nomatch e), fun _ => fin ?_⟩⟩
  rotate_left
  · have : a.drop k = [] := by simpa using h1
    rw [this] at hp; simpa [preL] using hp
  have hka : k < a.length := by
    have : a.drop k ≠ [] := of_decide_eq_true h1
    rcases Nat.lt_or_ge k a.length with h | h
    · exact h
    · exact absurd (List.drop_eq_nil_of_le h) this
  refine et_and ?_
  refine et_plain ?_ -- b[pre:]
  refine ev_sslice ?_
  refine ev_loc (i := 1) rfl rfl rfl rfl ?_ -- b
  refine pt_some ?_
  refine ev_loc (i := 3) rfl rfl rfl rfl ?_ -- pre
  refine .inl ⟨_, rfl, ?_⟩
  refine pt_none ?_
  refine ⟨_, rfl, sz (by rw [len_tx]; exact hb), ?_⟩
  rw [slice_tx, cut_from]
  refine tru_tx (by simp; omega) ?_
  refine ⟨fun h2 => ?_, fun h2 => ⟨fun e => (nomatch e), fun _ => fin ?_⟩⟩
  rotate_left
  · have : b.drop k = [] := by simpa using h2
    rw [this] at hp
    cases hd : a.drop k <;> rw [hd] at hp <;> simpa [preL] using hp
  have hkb : k < b.length := by
    have : b.drop k ≠ [] := of_decide_eq_true h2
    rcases Nat.lt_or_ge k b.length with h | h
    · exact h
    · exact absurd (List.drop_eq_nil_of_le h) this
  obtain ⟨x, hx⟩ : ∃ x, a[k]? = some x := ⟨_, List.getElem?_eq_getElem hka⟩
  obtain ⟨y, hy⟩ : ∃ y, b[k]? = some y := ⟨_, List.getElem?_eq_getElem hkb⟩
  have hstep := preL_drop a b k x y hx hy hp
  refine et_and ?_
  refine et_cmp ?_ -- a[pre] == b[pre]
  refine ev_sub ?_
  refine ev_loc (i := 0) rfl rfl rfl rfl ?_ -- a
  refine ev_loc (i := 3) rfl rfl rfl rfl ?_ -- pre
  refine sub_str (cp := x) (fitsSsize_of (N := 9223372036854775808) (by omega) (by omega) (Int.le_refl _)) (charAt_tx (by omega) (by rw [ix_nat]; exact hx)) ?_
  refine ev_sub ?_
  refine ev_loc (i := 1) rfl rfl rfl rfl ?_ -- b
  refine ev_loc (i := 3) rfl rfl rfl rfl ?_ -- pre
  refine sub_str (cp := y) (fitsSsize_of (N := 9223372036854775808) (by omega) (by omega) (Int.le_refl _)) (charAt_tx (by omega) (by rw [ix_nat]; exact hy)) ?_
  refine cmp_seq ?_
  refine tru_bool ?_
  rw [show ((⟨#[x]⟩ : Str) == ⟨#[y]⟩) = (x == y) from one_beq x y]
  refine ⟨fun h3 => ?_, fun h3 => ⟨fun e => (nomatch e), fun _ => fin ?_⟩⟩
  rotate_left
  · rw [if_neg (by simpa using h3)] at hstep; exact hstep
  rw [if_pos (eq_of_beq h3)] at hstep
  refine et_and_nil ?_
  refine ⟨fun _ => ?_, fun e => by cases e⟩
  -- pre += 1
  refine ex_aug ?_
  refine ld_loc (i := 3) rfl rfl rfl rfl ?_
  refine ev_int ?_ -- 1
  refine ibin_add ?_
  refine sto_loc (i := 3) rfl rfl ?_ -- pre
  refine ex_nil ⟨a.length - (k + 1), [(0, .str (tx a)), (1, .str (tx b)), (2, .int mc), (3, .int ((k + 1 : Nat) : Int))], σ, by omega, .of ⟨rfl, rfl, rfl, ?_, trivial⟩ (.refl _), k + 1, rfl, hka, rfl, rfl, hstep⟩
  show some (V.int ((k : Int) + 1)) = _
  congr 2
end
end Mine
end

section
set_option maxRecDepth 100000
namespace Mine
section
variable {w : World} {S0 : Shared} {c : Cx} {m mm : Ms} {σ : Sto} {mg mb : Str → Option Value}
variable {pm cd : Value} {L : Addr} (FO : FnOk S0 aLev (mkFd stLev "_levenshtein_distance" pm cd .none .none) (bodyOf stLev) (locals (scopeOf stLev)))

theorem ev_cutpost {K : V → Sto → Prop} {nm : Str} {p1 p2 p3 p4 p5 p6 : Pos} {kk : Nat} {a : List Nat} {q : Nat} (hn : ∀ K' : V → Sto → Prop, K' (.str (tx a)) σ → Ev pw w S0 (levC c m L FO) (.Name nm p1) mm σ K') (hp : mm.lookup 4 = some (.int (-(q : Int)))) (hq : q ≤ a.length) (ha : a.length ≤ 1000000)
    (h : K (.str (tx (a.take (a.length - q)))) σ) : Ev pw w S0 (levC c m L FO) (.Subscript (.Name nm p1) (.Slice .none (some (.BoolOp .Or [.Name "post" p2, .Constant .none kk p3] p4)) .none p5) p6) mm σ K := by
  refine ev_sslice (hn _ ?_)
  refine pt_none ?_
  refine pt_some ?_
  refine ev_or ?_
  refine ev_loc (i := 4) rfl rfl rfl hp ?_ -- post
  refine tru_int ?_
  refine ⟨fun h0 => ?_, fun h0 => ?_⟩
  · have : q ≠ 0 := by rintro rfl; simp at h0
    refine .inl ⟨_, rfl, ?_⟩
    refine ⟨_, rfl, sz (by rw [len_tx]; exact ha), ?_⟩
    rw [slice_tx, cut_to _ _ (by omega) hq]; exact h
  · have : q = 0 := by have : (-(q : Int)) = 0 := by simpa using h0
                       omega
    subst this
    refine ev_bool1 (ev_none ?_)
    refine .inr ⟨rfl, ?_⟩
    refine ⟨_, rfl, sz (by rw [len_tx]; exact ha), ?_⟩
    rw [slice_tx, cut_all]; rw [Nat.sub_zero, List.take_length] at h; exact h
theorem rev_get {a : List Nat} {q : Nat} (h : q < a.length) : ∃ x, a.reverse[q]? = some x ∧ a[ix a.length (-(q : Int) - 1)]? = some x := by
  refine ⟨a[a.length - 1 - q]'(by omega), ?_, ?_⟩
  · rw [List.getElem?_reverse h]; exact List.getElem?_eq_getElem _
  · have : ix a.length (-(q : Int) - 1) = a.length - 1 - q := by unfold ix; rw [if_pos (by omega)]; omega
    rw [this]; exact List.getElem?_eq_getElem _
theorem lev_post {K : Fl → Ms → Sto → Prop} {a b : List Nat} {mc : Int} (ha : a.length ≤ 1000000) (hb : b.length ≤ 1000000) (h : Ex pw w S0 (levC c m L FO) (levB 7) [(0, .str (tx a)), (1, .str (tx b)), (2, .int mc), (4, .int (-(sufL a b : Int)))] σ K) :
    Ex pw w S0 (levC c m L FO) (levB 6) [(0, .str (tx a)), (1, .str (tx b)), (2, .int mc), (4, .int 0)] σ K := by
  refine ex_whl (fun n m0 τ0 => ∃ k : Nat, n = a.length - k ∧ k ≤ a.length ∧ k ≤ b.length ∧ m0 = [(0, .str (tx a)), (1, .str (tx b)), (2, .int mc), (4, .int (-(k : Int)))] ∧ σ = τ0 ∧ sufL a b = k + preL (a.reverse.drop k) (b.reverse.drop k)) a.length
    (m0 := [(0, .str (tx a)), (1, .str (tx b)), (2, .int mc), (4, .int (-((0 : Nat) : Int)))]) (σ0 := σ) (.of ⟨rfl, rfl, rfl, rfl, trivial⟩ (.refl _)) ⟨0, rfl, Nat.zero_le _, Nat.zero_le _, rfl, rfl, by simp [sufL]⟩ ?_
  rintro n _ _ ⟨k, rfl, hk, hk2, rfl, rfl, hp⟩
  have fin : sufL a b = k → Ex pw w S0 (levC c m L FO) (levB 7) [(0, .str (tx a)), (1, .str (tx b)), (2, .int mc), (4, .int (-(k : Int)))] σ K := fun e => by rw [← e]; exact h
  refine et_and ?_
  refine et_plain ?_ -- a[:post or None]
  refine ev_cutpost (a := a) (q := k) FO (fun K' hk => ev_loc (i := 0) rfl rfl rfl rfl hk) rfl hk ha ?_
  refine tru_tx (by simp; omega) ?_
  refine ⟨fun h1 => ?_, fun h1 => ⟨fun e => (nomatch e), fun _ => fin ?_⟩⟩
  rotate_left
  · have : a.take (a.length - k) = [] := Classical.not_not.mp (of_decide_eq_false h1)
    have hlen := congrArg List.length this
    rw [List.length_take] at hlen
    have hlen : a.length - k = 0 := by simpa using hlen
    rw [List.drop_eq_nil_of_le (by simp; omega)] at hp; simpa [preL] using hp
  have hka : k < a.length := by
    have : a.take (a.length - k) ≠ [] := of_decide_eq_true h1
    rcases Nat.lt_or_ge k a.length with h | h
    · exact h
    · exact absurd (by rw [Nat.sub_eq_zero_of_le h]; rfl) this
  refine et_and ?_
  refine et_plain ?_ -- b[:post or None]
  refine ev_cutpost (a := b) (q := k) FO (fun K' hk => ev_loc (i := 1) rfl rfl rfl rfl hk) rfl hk2 hb ?_
  refine tru_tx (by simp; omega) ?_
  refine ⟨fun h2 => ?_, fun h2 => ⟨fun e => (nomatch e), fun _ => fin ?_⟩⟩
  rotate_left
  · have : b.take (b.length - k) = [] := Classical.not_not.mp (of_decide_eq_false h2)
    have hlen := congrArg List.length this
    rw [List.length_take] at hlen
    have hlen : b.length - k = 0 := by simpa using hlen
    rw [List.drop_eq_nil_of_le (as := b.reverse) (by simp; omega)] at hp
    cases hd : a.reverse.drop k <;> rw [hd] at hp <;> simpa [preL] using hp
  have hkb : k < b.length := by
    have : b.take (b.length - k) ≠ [] := of_decide_eq_true h2
    rcases Nat.lt_or_ge k b.length with h | h
    · exact h
    · exact absurd (by rw [Nat.sub_eq_zero_of_le h]; rfl) this
  obtain ⟨x, hx, hx'⟩ := rev_get hka
  obtain ⟨y, hy, hy'⟩ := rev_get hkb
  have hstep := preL_drop a.reverse b.reverse k x y hx hy hp
  refine et_and ?_
  refine et_cmp ?_ -- a[post - 1] == b[post - 1]
  refine ev_sub ?_
  refine ev_loc (i := 0) rfl rfl rfl rfl ?_ -- a
  refine ev_bin ?_
  refine ev_loc (i := 4) rfl rfl rfl rfl ?_ -- post
  refine ev_int ?_ -- 1
  refine bin_sub ?_
  refine sub_str (cp := x) (fitsSsize_of (N := 9223372036854775808) (by omega) (by omega) (Int.le_refl _)) (charAt_tx (by omega) hx') ?_
  refine ev_sub ?_
  refine ev_loc (i := 1) rfl rfl rfl rfl ?_ -- b
  refine ev_bin ?_
  refine ev_loc (i := 4) rfl rfl rfl rfl ?_ -- post
  refine ev_int ?_ -- 1
  refine bin_sub ?_
  refine sub_str (cp := y) (fitsSsize_of (N := 9223372036854775808) (by omega) (by omega) (Int.le_refl _)) (charAt_tx (by omega) hy') ?_
  refine cmp_seq ?_
  refine tru_bool ?_
  rw [show ((⟨#[x]⟩ : Str) == ⟨#[y]⟩) = (x == y) from one_beq x y]
  refine ⟨fun h3 => ?_, fun h3 => ⟨fun e => (nomatch e), fun _ => fin ?_⟩⟩
  rotate_left
  · rw [if_neg (by simpa using h3)] at hstep; exact hstep
  rw [if_pos (eq_of_beq h3)] at hstep
  refine et_and_nil ?_
  refine ⟨fun _ => ?_, fun e => by cases e⟩
  -- post -= 1
  refine ex_aug ?_
  refine ld_loc (i := 4) rfl rfl rfl rfl ?_
  refine ev_int ?_ -- 1
  refine ibin_sub ?_
  refine sto_loc (i := 4) rfl rfl ?_ -- post
  refine ex_nil ⟨a.length - (k + 1), [(0, .str (tx a)), (1, .str (tx b)), (2, .int mc), (4, .int (-((k + 1 : Nat) : Int)))], σ, by omega, .of ⟨rfl, rfl, rfl, ?_, trivial⟩ (.refl _), k + 1, rfl, hka, hkb, rfl, rfl, hstep⟩
  show some (V.int (-(k : Int) - 1)) = _
  congr 2
  omega
end
end Mine
end

section
set_option maxRecDepth 100000
namespace Mine
def bodyFor : Stmt → List Stmt
  | .For _ _ body .. => body
  | _ => []
def levO (k : Nat) : List Stmt := (bodyFor ((levB 15).headD (.Pass ⟨0, 0, 0, 0⟩))).drop k
def iV (l : List Int) : List V := l.map V.int
def nV (n : Nat) : List V := (List.range n).map fun j : Nat => V.int (j : Int)
theorem range_nV (n : Nat) : (List.range n).map (fun j : Nat => V.int (0 + (j : Int) * 1)) = nV n := by
  apply List.map_congr_left; intro j _; simp
theorem nV_drop {n i : Nat} {x : V} {xs : List V} (h : x :: xs = (nV n).drop i) : i < n ∧ x = .int (i : Int) ∧ xs = (nV n).drop (i + 1) := by
  have hl := congrArg List.length h
  simp [nV] at hl
  have hlt : i < n := by omega
  have hlt' : i < (nV n).length := by simpa [nV] using hlt
  rw [List.drop_eq_getElem_cons hlt'] at h
  obtain ⟨e1, e2⟩ := List.cons.inj h
  refine ⟨hlt, ?_, e2⟩
  rw [e1]; simp [nV]
theorem nV_nil {n i : Nat} (h : [] = (nV n).drop i) : n ≤ i := by
  have hl := congrArg List.length h
  simp [nV] at hl
  omega
theorem nV_len (n : Nat) : (nV n).length = n := by simp [nV]
theorem small_nat (n : Nat) (h : n ≤ 1000000) : Builtin.Range.small 0 (n : Int) 1 = true := small_one (by decide) (by decide) (by omega) (by omega)
theorem size_nat (n : Nat) : Builtin.Range.rangeSize 0 (n : Int) 1 = n := by rw [rangeSize_one]; split <;> omega
theorem inner_len (bc : Nat) : ∀ (l : List (Nat × Int)) (d r mn : Int), (inner bc l d r mn).1.length = l.length
  | [], _, _, _ => rfl
  | (ac, rv) :: t, d, r, mn => by
    have := inner_len bc t rv (min (min r rv + 2) (d + (subC bc ac : Nat))) (if (min (min r rv + 2) (d + (subC bc ac : Nat))) < mn then (min (min r rv + 2) (d + (subC bc ac : Nat))) else mn)
    show (_ :: (inner bc t _ _ _).1).length = _
    rw [List.length_cons, this]; rfl
section
variable {w : World} {S0 : Shared} {c : Cx} {m mm : Ms} {σ : Sto} {mg mb : Str → Option Value}
variable {pm cd : Value} {L : Addr} (FO : FnOk S0 aLev (mkFd stLev "_levenshtein_distance" pm cd .none .none) (bodyOf stLev) (locals (scopeOf stLev)))

theorem lev_inner (H : Hd S0 mg mb) (hroom : c.A.depth + 1 < recursionLimit) {K : Fl → Ms → Sto → Prop} {p0 : Addr × O} {a b : List Nat} {mc : Int} {bc : Nat} {r : Addr} {row : List Int} {res d mn : Int} (ha : a.length ≤ 1000000) (hrow : row.length = a.length)
    (hoa : ∀ x ∈ a, Okc x) (hob : Okc bc)
    (h : Ex pw w S0 ((levC c m L FO).push p0) (levO 4) [(0, .str (tx a)), (1, .str (tx b)), (2, .int mc), (5, .ref r), (6, .int (inner bc (a.zip row) d res mn).2.1), (10, .int (inner bc (a.zip row) d res mn).2.2)]
      ((r, .list (iV (inner bc (a.zip row) d res mn).1)) :: σ) K) :
    Ex pw w S0 ((levC c m L FO).push p0) (levO 3) [(0, .str (tx a)), (1, .str (tx b)), (2, .int mc), (5, .ref r), (6, .int res), (8, .str (one bc)), (9, .int d), (10, .int mn)] ((r, .list (iV row)) :: σ) K := by
  refine ex_for ?_
  refine ev_call ?_ -- range(len(a))
  refine ev_blt H.B rfl rfl (by decide) H.no_range boot_range ?_
  refine ⟨kpr_type, ?_⟩
  refine evs_cons ?_
  refine ev_call ?_ -- len(a)
  refine ev_blt H.B rfl rfl (by decide) H.no_len boot_len ?_
  refine ⟨kpr_blt, ?_⟩
  refine evs_cons ?_
  refine ev_loc (i := 0) rfl rfl rfl rfl ?_ -- a
  refine evs_nil ?_
  refine cal_len_str (by rw [len_tx]; omega) ?_
  rw [len_tx]
  refine evs_nil ?_
  refine cal_range1 fun rr => ?_
  refine ⟨_, _, itb_range (small_nat _ ha) (size_nat _), ?_⟩
  rw [range_nV]
  generalize hz : inner bc (a.zip row) d res mn = z at h
  refine turns_gen (fun xs m0 T => ∃ (i : Nat) (done : List Int) (d res mn : Int), xs = (nV a.length).drop i ∧ i ≤ a.length ∧ done.length = i ∧
      m0 = [(0, .str (tx a)), (1, .str (tx b)), (2, .int mc), (5, .ref r), (6, .int res), (8, .str (one bc)), (9, .int d), (10, .int mn)] ∧ T = (rr, .rng 0 (a.length : Int) 1) :: (r, .list (iV (done ++ row.drop i))) :: σ ∧
      (done ++ (inner bc ((a.zip row).drop i) d res mn).1, (inner bc ((a.zip row).drop i) d res mn).2.1, (inner bc ((a.zip row).drop i) d res mn).2.2) = z) ?_ ?_ ?_ _ _ _
    ⟨0, [], d, res, mn, rfl, Nat.zero_le _, rfl, rfl, rfl, hz⟩
  · rintro xs _ _ ⟨i, done, d, res, mn, -, -, -, rfl, rfl, -⟩
    exact .tail _ (List.mem_append_right _ (.head _))
  · rintro x xs _ _ ⟨i, done, d, res, mn, hx, hi, hd, rfl, rfl, hI⟩ p
    obtain ⟨hlt, rfl, hxs⟩ := nV_drop hx
    obtain ⟨ac, hac⟩ : ∃ y, a[i]? = some y := ⟨_, List.getElem?_eq_getElem hlt⟩
    obtain ⟨rv, hrv⟩ : ∃ y, row[i]? = some y := ⟨_, List.getElem?_eq_getElem (by omega)⟩
    have hacm := List.mem_of_getElem? hac
    have hzd : (a.zip row).drop i = (ac, rv) :: (a.zip row).drop (i + 1) := by
      have hl : i < (a.zip row).length := by simp; omega
      rw [List.drop_eq_getElem_cons hl]
      congr 1
      obtain ⟨_, e1⟩ := List.getElem?_eq_some_iff.mp hac
      obtain ⟨_, e2⟩ := List.getElem?_eq_some_iff.mp hrv
      rw [List.getElem_zip, e1, e2]
    have hrd : row.drop i = rv :: row.drop (i + 1) := by
      obtain ⟨h1, e1⟩ := List.getElem?_eq_some_iff.mp hrv
      rw [List.drop_eq_getElem_cons h1, e1]
    have hget : (iV (done ++ row.drop i))[i]? = some (.int rv) := by
      unfold iV
      rw [List.getElem?_map, List.getElem?_append_right (by omega), hd, Nat.sub_self, hrd]; rfl
    have hlen : (iV (done ++ row.drop i)).length = a.length := by simp [iV]; omega
    rw [hzd] at hI
    refine asg_name (sto_loc (i := 11) rfl rfl ?_)
    -- substitute = distance + _substitution_cost(bchar, a[index])
    refine ex_assign ?_
    refine ev_bin ?_
    refine ev_loc (i := 9) rfl rfl rfl rfl ?_ -- distance
    refine ev_call ?_ -- _substitution_cost(bchar, a[index])
    refine ev_glob (V0 := .ref aSubst) H.B rfl rfl H.g_substitution_cost rfl ?_
    obtain ⟨_, _, FS⟩ := subst_ok H
    obtain ⟨os, hos, hds⟩ := FS.at_
    refine ⟨kpr_fn hos hds, ?_⟩
    refine evs_cons ?_
    refine ev_loc (i := 8) rfl rfl rfl rfl ?_ -- bchar
    refine evs_cons ?_
    refine ev_sub ?_
    refine ev_loc (i := 0) rfl rfl rfl rfl ?_ -- a
    refine ev_loc (i := 11) rfl rfl rfl rfl ?_ -- index
    refine sub_str (cp := ac) (fitsSsize_of (N := 9223372036854775808) (by omega) (by omega) (Int.le_refl _)) (charAt_tx (by omega) (by rw [ix_nat]; exact hac)) ?_
    refine evs_nil ?_
    refine subst H (by show c.A.depth + 1 < _; exact hroom) hob (hoa _ hacm) ?_
    refine bin_add ?_
    refine sto_loc (i := 12) rfl rfl ?_ -- substitute
    -- distance = row[index]
    refine ex_assign ?_
    refine ev_sub ?_
    refine ev_loc (i := 5) rfl rfl rfl rfl ?_ -- row
    refine ev_loc (i := 11) rfl rfl rfl rfl ?_ -- index
    refine sub_list (x := .int rv) (.tail _ (.head _)) (by omega) (by omega) (by omega) (by rw [ix_nat]; exact hget) ?_
    refine sto_loc (i := 9) rfl rfl ?_ -- distance
    -- insert_delete = min(result, distance) + _MOVE_COST
    refine ex_assign ?_
    refine ev_bin ?_
    refine ev_call ?_ -- min(result, distance)
    refine ev_blt H.B rfl rfl (by decide) H.no_min boot_min ?_
    refine ⟨kpr_blt, ?_⟩
    refine evs_cons ?_
    refine ev_loc (i := 6) rfl rfl rfl rfl ?_ -- result
    refine evs_cons ?_
    refine ev_loc (i := 9) rfl rfl rfl rfl ?_ -- distance
    refine evs_nil ?_
    refine cal_min2 ?_
    obtain ⟨t, ht'⟩ := H.g_MOVE_COST
    refine ev_glob (V0 := .int 2) H.B rfl rfl ht' ⟨_, rfl⟩ ?_
    refine bin_add ?_
    refine sto_loc (i := 13) rfl rfl ?_ -- insert_delete
    -- result = min(insert_delete, substitute)
    refine ex_assign ?_
    refine ev_call ?_ -- min(insert_delete, substitute)
    refine ev_blt H.B rfl rfl (by decide) H.no_min boot_min ?_
    refine ⟨kpr_blt, ?_⟩
    refine evs_cons ?_
    refine ev_loc (i := 13) rfl rfl rfl rfl ?_ -- insert_delete
    refine evs_cons ?_
    refine ev_loc (i := 12) rfl rfl rfl rfl ?_ -- substitute
    refine evs_nil ?_
    refine cal_min2 ?_
    refine sto_loc (i := 6) rfl rfl ?_ -- result
    -- row[index] = result
    refine ex_setitem ?_
    refine ev_loc (i := 6) rfl rfl rfl rfl ?_ -- result
    refine ev_loc (i := 5) rfl rfl rfl rfl ?_ -- row
    refine ev_loc (i := 11) rfl rfl rfl rfl ?_ -- index
    refine ⟨_, _, _, _, rfl, rfl, by omega, by rw [hlen]; omega, by rw [hlen]; omega, .tail .head, ?_⟩
    have hset : (iV (done ++ row.drop i)).set ((i : Int)).toNat (V.int (min (min res rv + 2) (d + (subC bc ac : Nat)))) = iV ((done ++ [min (min res rv + 2) (d + (subC bc ac : Nat))]) ++ row.drop (i + 1)) := by
      unfold iV
      rw [Int.toNat_natCast, hrd, ← List.map_set, List.set_append_right _ _ (by omega), hd, Nat.sub_self]
      simp
    rw [hset]
    -- if result < minimum:
    refine ex_if ?_
    refine et_cmp ?_ -- result < minimum
    refine ev_loc (i := 6) rfl rfl rfl rfl ?_ -- result
    refine ev_loc (i := 10) rfl rfl rfl rfl ?_ -- minimum
    refine cmp_lt ?_
    refine tru_bool ?_
    have hI' : ((done ++ [min (min res rv + 2) (d + (subC bc ac : Nat))]) ++ (inner bc ((a.zip row).drop (i + 1)) rv (min (min res rv + 2) (d + (subC bc ac : Nat))) (if min (min res rv + 2) (d + (subC bc ac : Nat)) < mn then min (min res rv + 2) (d + (subC bc ac : Nat)) else mn)).1,
        (inner bc ((a.zip row).drop (i + 1)) rv (min (min res rv + 2) (d + (subC bc ac : Nat))) (if min (min res rv + 2) (d + (subC bc ac : Nat)) < mn then min (min res rv + 2) (d + (subC bc ac : Nat)) else mn)).2.1,
        (inner bc ((a.zip row).drop (i + 1)) rv (min (min res rv + 2) (d + (subC bc ac : Nat))) (if min (min res rv + 2) (d + (subC bc ac : Nat)) < mn then min (min res rv + 2) (d + (subC bc ac : Nat)) else mn)).2.2) = z := by
      rw [← hI, List.append_assoc]; rfl
    generalize min (min res rv + 2) (d + (subC bc ac : Nat)) = r' at hI' ⊢
    refine ⟨fun ht => ?_, fun hf => ?_⟩
    · -- minimum = result
      refine ex_assign ?_
      refine ev_loc (i := 6) rfl rfl rfl rfl ?_ -- result
      refine sto_loc (i := 10) rfl rfl ?_ -- minimum
      rw [if_pos (of_decide_eq_true ht)] at hI'
      refine ex_nil (ex_nil ⟨[(0, .str (tx a)), (1, .str (tx b)), (2, .int mc), (5, .ref r), (6, .int r'), (8, .str (one bc)), (9, .int rv), (10, .int r')], _, .of ⟨rfl, rfl, rfl, rfl, rfl, rfl, rfl, rfl, trivial⟩ (.refl _), i + 1, done ++ [r'], rv, r', r', hxs, hlt, by simp [hd], rfl, rfl, hI'⟩)
    · rw [if_neg (of_decide_eq_false hf)] at hI'
      refine ex_nil (ex_nil ⟨[(0, .str (tx a)), (1, .str (tx b)), (2, .int mc), (5, .ref r), (6, .int r'), (8, .str (one bc)), (9, .int rv), (10, .int mn)], _, .of ⟨rfl, rfl, rfl, rfl, rfl, rfl, rfl, rfl, trivial⟩ (.refl _), i + 1, done ++ [r'], rv, r', mn, hxs, hlt, by simp [hd], rfl, rfl, hI'⟩)
  · rintro _ _ ⟨i, done, d, res, mn, hx, hi, hd, rfl, rfl, hI⟩
    have hi' : i = a.length := by have := nV_nil hx; omega
    subst hi'
    rw [List.drop_eq_nil_of_le (by simp; omega)] at hI
    rw [List.drop_eq_nil_of_le (by omega), List.append_nil]
    have e : z = (done, res, mn) := by rw [← hI]; simp [inner]
    rw [e] at h
    refine Ex.wk ?_ h
    exact .of ⟨rfl, rfl, rfl, rfl, rfl, rfl, trivial⟩ (.cons _ (.refl _))
end
end Mine
end

section
set_option maxRecDepth 100000
namespace Mine
section
variable {w : World} {S0 : Shared} {c : Cx} {m mm : Ms} {σ : Sto} {mg mb : Str → Option Value} {KV : V → Sto → Prop}
variable {pm cd : Value} {L : Addr} (FO : FnOk S0 aLev (mkFd stLev "_levenshtein_distance" pm cd .none .none) (bodyOf stLev) (locals (scopeOf stLev)))

theorem Ex.perm {cc : Cx} {ss : List Stmt} {σ' : Sto} {K : Fl → Ms → Sto → Prop} (h : σ.Perm σ') (k : Ex pw w S0 cc ss m σ' K) : Ex pw w S0 cc ss m σ K := Tr.weak (Imp.perm (.cons _ (.append_left _ h))) k
theorem size_row (n : Nat) : Builtin.Range.rangeSize 2 (2 * ((n : Int) + 1)) 2 = n := by
  unfold Builtin.Range.rangeSize
  simp only [show (2 : Int) > 0 by decide, if_true]
  split <;> omega
theorem fits_long {i : Int} (h : -1000000000 ≤ i) (h' : i ≤ 1000000000) : Builtin.Range.rangeFitsLong i = true := by
  unfold Builtin.Range.rangeFitsLong
  rw [Bool.and_eq_true, decide_eq_true_eq, decide_eq_true_eq]
  constructor <;> omega
theorem small_row (n : Nat) (h : n ≤ 1000000) : Builtin.Range.small 2 (2 * ((n : Int) + 1)) 2 = true := by
  unfold Builtin.Range.small
  rw [size_row, fits_long (by omega) (by omega), fits_long (by omega) (by omega), fits_long (by omega) (by omega), fits_long (by omega) (by omega)]
  rw [if_pos (by decide), Bool.or_true]
  rfl
theorem lev_outer (H : Hd S0 mg mb) (hroom : c.A.depth + 1 < recursionLimit) {a b : List Nat} {mc : Int} {r : Addr} (ha : a.length ≤ 1000000) (hb : b.length ≤ 1000000) (hoa : ∀ x ∈ a, Okc x) (hob : ∀ x ∈ b, Okc x)
    (h : KV (.int (outer a mc 0 b (row0 a.length) 0)) σ) :
    Ex pw w S0 (levC c m L FO) (levB 15) [(0, .str (tx a)), (1, .str (tx b)), (2, .int mc), (5, .ref r), (6, .int 0)] ((r, .list (iV (row0 a.length))) :: σ) (RetK S0 c m KV) := by
  obtain ⟨t2, ht2⟩ := H.g_MOVE_COST
  refine ex_for ?_
  refine ev_call ?_ -- range(len(b))
  refine ev_blt H.B rfl rfl (by decide) H.no_range boot_range ?_
  refine ⟨kpr_type, ?_⟩
  refine evs_cons ?_
  refine ev_call ?_ -- len(b)
  refine ev_blt H.B rfl rfl (by decide) H.no_len boot_len ?_
  refine ⟨kpr_blt, ?_⟩
  refine evs_cons ?_
  refine ev_loc (i := 1) rfl rfl rfl rfl ?_ -- b
  refine evs_nil ?_
  refine cal_len_str (by rw [len_tx]; omega) ?_
  rw [len_tx]
  refine evs_nil ?_
  refine cal_range1 fun rr => ?_
  refine ⟨_, _, itb_range (small_nat _ hb) (size_nat _), ?_⟩
  rw [range_nV]
  generalize hz : outer a mc 0 b (row0 a.length) 0 = z at h
  refine turns_gen (fun xs m0 T => ∃ (i : Nat) (row : List Int) (res : Int), xs = (nV b.length).drop i ∧ i ≤ b.length ∧ row.length = a.length ∧
      m0 = [(0, .str (tx a)), (1, .str (tx b)), (2, .int mc), (5, .ref r), (6, .int res)] ∧ T = (rr, .rng 0 (b.length : Int) 1) :: (r, .list (iV row)) :: σ ∧ outer a mc i (b.drop i) row res = z) ?_ ?_ ?_ _ _ _
    ?_
  · rintro xs _ _ ⟨i, row, res, -, -, -, rfl, rfl, -⟩
    exact .tail _ (List.mem_append_right _ (.head _))
  · rintro x xs _ _ ⟨i, row, res, hx, hi, hr, rfl, rfl, hI⟩ p
    obtain ⟨hlt, rfl, hxs⟩ := nV_drop hx
    obtain ⟨bc, hbc⟩ : ∃ y, b[i]? = some y := ⟨_, List.getElem?_eq_getElem hlt⟩
    have hbd : b.drop i = bc :: b.drop (i + 1) := by
      obtain ⟨h1, e1⟩ := List.getElem?_eq_some_iff.mp hbc
      rw [List.drop_eq_getElem_cons h1, e1]
    rw [hbd] at hI
    refine asg_name (sto_loc (i := 7) rfl rfl ?_)
    -- bchar = b[bindex]
    refine ex_assign ?_
    refine ev_sub ?_
    refine ev_loc (i := 1) rfl rfl rfl rfl ?_ -- b
    refine ev_loc (i := 7) rfl rfl rfl rfl ?_ -- bindex
    refine sub_str (cp := bc) (fitsSsize_of (N := 9223372036854775808) (by omega) (by omega) (Int.le_refl _)) (charAt_tx (by omega) (by rw [ix_nat]; exact hbc)) ?_
    refine sto_loc (i := 8) rfl rfl ?_ -- bchar
    -- distance = result = bindex * _MOVE_COST
    refine ex_assign2 ?_
    refine ev_bin ?_
    refine ev_loc (i := 7) rfl rfl rfl rfl ?_ -- bindex
    refine ev_glob (V0 := .int 2) H.B rfl rfl ht2 ⟨_, rfl⟩ ?_
    refine bin_mul (IntMulOk.of_right (by decide +kernel)) ?_
    refine sto_loc (i := 9) rfl rfl ?_ -- distance
    refine sto_loc (i := 6) rfl rfl ?_ -- result
    -- minimum = 9223372036854775807
    refine ex_assign ?_
    refine ev_int ?_ -- 9223372036854775807
    refine sto_loc (i := 10) rfl rfl ?_ -- minimum
    refine Ex.wk (m' := [(0, .str (tx a)), (1, .str (tx b)), (2, .int mc), (5, .ref r), (6, .int ((i : Int) * 2)), (8, .str (one bc)), (9, .int ((i : Int) * 2)), (10, .int maxI)]) (.of ⟨rfl, rfl, rfl, rfl, rfl, rfl, rfl, rfl, trivial⟩ (.refl _)) ?_
    refine Ex.perm (.swap ..) ?_
    refine lev_inner FO H hroom ha hr hoa (hob bc (List.mem_of_getElem? hbc)) ?_
    refine Ex.perm (.swap ..) ?_
    have hun : outer a mc i (bc :: b.drop (i + 1)) row res = if (inner bc (a.zip row) (2 * (i : Int)) (2 * (i : Int)) maxI).2.2 > mc then mc + 1 else outer a mc (i + 1) (b.drop (i + 1)) (inner bc (a.zip row) (2 * (i : Int)) (2 * (i : Int)) maxI).1 (inner bc (a.zip row) (2 * (i : Int)) (2 * (i : Int)) maxI).2.1 := rfl
    rw [hun, Int.mul_comm 2 (i : Int)] at hI
    have hil := inner_len bc (a.zip row) ((i : Int) * 2) ((i : Int) * 2) maxI
    generalize inner bc (a.zip row) ((i : Int) * 2) ((i : Int) * 2) maxI = y at hI hil ⊢
    -- if minimum > max_cost:
    refine ex_if ?_
    refine et_cmp ?_ -- minimum > max_cost
    refine ev_loc (i := 10) rfl rfl rfl rfl ?_ -- minimum
    refine ev_loc (i := 2) rfl rfl rfl rfl ?_ -- max_cost
    refine cmp_gt ?_
    refine tru_bool ?_
    refine ⟨fun ht => ?_, fun hf => ?_⟩
    · -- return max_cost + 1
      rw [if_pos (of_decide_eq_true ht)] at hI
      refine ex_ret ?_
      refine ev_bin ?_
      refine ev_loc (i := 2) rfl rfl rfl rfl ?_ -- max_cost
      refine ev_int ?_ -- 1
      refine bin_add ?_
      rw [← hI] at h
      exact ret_sub (m' := []) (.cons _ (.cons _ (.refl _))) h
    · rw [if_neg (of_decide_eq_false hf)] at hI
      exact ex_nil (ex_nil ⟨[(0, .str (tx a)), (1, .str (tx b)), (2, .int mc), (5, .ref r), (6, .int y.2.1)], _, .of ⟨rfl, rfl, rfl, rfl, rfl, trivial⟩ (.refl _), i + 1, y.1, y.2.1, hxs, hlt, by rw [hil]; simp; omega, rfl, rfl, hI⟩)
  · rintro _ _ ⟨i, row, res, hx, hi, hr, rfl, rfl, hI⟩
    have hi' : i = b.length := by have := nV_nil hx; omega
    subst hi'
    rw [List.drop_eq_nil_of_le (Nat.le_refl _)] at hI
    have e : res = z := hI
    subst e
    -- return result
    refine ex_ret ?_
    refine ev_loc (i := 6) rfl rfl rfl rfl ?_ -- result
    exact ret_sub (m' := []) (.cons _ (.cons _ (.refl _))) h
  · exact ⟨0, row0 a.length, 0, rfl, Nat.zero_le _, by simp [row0], rfl, rfl, hz⟩

/-- from the rows on -/
theorem lev_tail (H : Hd S0 mg mb) (hroom : c.A.depth + 1 < recursionLimit) {a b : List Nat} {mc : Int} (ha : a.length ≤ 1000000) (hb : b.length ≤ 1000000) (hoa : ∀ x ∈ a, Okc x) (hob : ∀ x ∈ b, Okc x)
    (h : KV (.int (levT a b mc)) σ) : Ex pw w S0 (levC c m L FO) (levB 12) [(0, .str (tx a)), (1, .str (tx b)), (2, .int mc)] σ (RetK S0 c m KV) := by
  obtain ⟨t2, ht2⟩ := H.g_MOVE_COST
  -- if (len(b) - len(a)) * _MOVE_COST > max_cost:
  refine ex_if ?_
  refine et_cmp ?_ -- (len(b) - len(a)) * _MOVE_COST > max_cost
  refine ev_bin ?_
  refine ev_bin ?_
  refine ev_call ?_ -- len(b)
  refine ev_blt H.B rfl rfl (by decide) H.no_len boot_len ?_
  refine ⟨kpr_blt, ?_⟩
  refine evs_cons ?_
  refine ev_loc (i := 1) rfl rfl rfl rfl ?_ -- b
  refine evs_nil ?_
  refine cal_len_str (by rw [len_tx]; omega) ?_
  refine ev_call ?_ -- len(a)
  refine ev_blt H.B rfl rfl (by decide) H.no_len boot_len ?_
  refine ⟨kpr_blt, ?_⟩
  refine evs_cons ?_
  refine ev_loc (i := 0) rfl rfl rfl rfl ?_ -- a
  refine evs_nil ?_
  refine cal_len_str (by rw [len_tx]; omega) ?_
  rw [len_tx, len_tx]
  refine bin_sub ?_
  refine ev_glob (V0 := .int 2) H.B rfl rfl ht2 ⟨_, rfl⟩ ?_
  refine bin_mul (IntMulOk.of_right (by decide +kernel)) ?_
  refine ev_loc (i := 2) rfl rfl rfl rfl ?_ -- max_cost
  refine cmp_gt ?_
  refine tru_bool ?_
  unfold levT at h
  refine ⟨fun ht => ?_, fun hf => ?_⟩
  · rw [if_pos (of_decide_eq_true ht)] at h
    -- return max_cost + 1
    refine ex_ret ?_
    refine ev_bin ?_
    refine ev_loc (i := 2) rfl rfl rfl rfl ?_ -- max_cost
    refine ev_int ?_ -- 1
    refine bin_add ?_
    exact ret_sub (m' := []) (.refl _) h
  rw [if_neg (of_decide_eq_false hf)] at h
  refine ex_nil ?_
  -- row = list(range(_MOVE_COST, _MOVE_COST * (len(a) + 1), _MOVE_COST))
  refine ex_assign ?_
  refine ev_call ?_ -- list(range(_MOVE_COST, _MOVE_COST * (len(a) + 1), _MOVE_COST))
  refine ev_blt H.B rfl rfl (by decide) H.no_list boot_list ?_
  refine ⟨kpr_type, ?_⟩
  refine evs_cons ?_
  refine ev_call ?_ -- range(_MOVE_COST, _MOVE_COST * (len(a) + 1), _MOVE_COST)
  refine ev_blt H.B rfl rfl (by decide) H.no_range boot_range ?_
  refine ⟨kpr_type, ?_⟩
  refine evs_cons ?_
  refine ev_glob (V0 := .int 2) H.B rfl rfl ht2 ⟨_, rfl⟩ ?_
  refine evs_cons ?_
  refine ev_bin ?_
  refine ev_glob (V0 := .int 2) H.B rfl rfl ht2 ⟨_, rfl⟩ ?_
  refine ev_bin ?_
  refine ev_call ?_ -- len(a)
  refine ev_blt H.B rfl rfl (by decide) H.no_len boot_len ?_
  refine ⟨kpr_blt, ?_⟩
  refine evs_cons ?_
  refine ev_loc (i := 0) rfl rfl rfl rfl ?_ -- a
  refine evs_nil ?_
  refine cal_len_str (by rw [len_tx]; omega) ?_
  rw [len_tx]
  refine ev_int ?_ -- 1
  refine bin_add ?_
  refine bin_mul (IntMulOk.of_left (by decide +kernel)) ?_
  refine evs_cons ?_
  refine ev_glob (V0 := .int 2) H.B rfl rfl ht2 ⟨_, rfl⟩ ?_
  refine evs_nil ?_
  refine cal_range3 (by decide) (PyProof.noPylong_small (by decide)) fun rr => ?_
  refine evs_nil ?_
  refine cal_list_range (n := a.length) (mem_st (.head _)) ?_ ?_ (by omega) fun r => ?_
  · exact small_row _ ha
  · exact size_row _
  refine sto_loc (i := 5) rfl rfl ?_ -- row
  -- result = 0
  refine ex_assign ?_
  refine ev_int ?_ -- 0
  refine sto_loc (i := 6) rfl rfl ?_ -- result
  have e : ((List.range a.length).map fun j : Nat => V.int (2 + (j : Int) * 2)) = iV (row0 a.length) := by unfold iV row0; rw [List.map_map]; rfl
  rw [e]
  refine Ex.wk (m' := [(0, .str (tx a)), (1, .str (tx b)), (2, .int mc), (5, .ref r), (6, .int 0)]) (.of ⟨rfl, rfl, rfl, rfl, rfl, trivial⟩ (.cons_cons _ (.cons _ (.refl _)))) ?_
  exact lev_outer FO H hroom ha hb hoa hob h
end
end Mine
end

section
set_option maxRecDepth 100000
namespace Mine
section
variable {w : World} {S0 : Shared} {c : Cx} {m mm : Ms} {σ : Sto} {mg mb : Str → Option Value} {KV : V → Sto → Prop}
section
variable {pm cd : Value} {L : Addr} (FO : FnOk S0 aLev (mkFd stLev "_levenshtein_distance" pm cd .none .none) (bodyOf stLev) (locals (scopeOf stLev)))
theorem lev_mid (H : Hd S0 mg mb) (hroom : c.A.depth + 1 < recursionLimit) {a b : List Nat} {mc : Int} (ha : a.length ≤ 1000000) (hb : b.length ≤ 1000000) (hoa : ∀ x ∈ a, Okc x) (hob : ∀ x ∈ b, Okc x)
    (h : KV (.int (levM a b mc)) σ) : Ex pw w S0 (levC c m L FO) (levB 9) [(0, .str (tx a)), (1, .str (tx b)), (2, .int mc)] σ (RetK S0 c m KV) := by
  obtain ⟨t2, ht2⟩ := H.g_MOVE_COST
  obtain ⟨t4, ht4⟩ := H.g_MAX_STRING_SIZE
  -- if not a or not b:
  have fin1 : a = [] ∨ b = [] → Ex pw w S0 (levC c m L FO) (match (levB 9).headD (.Pass ⟨0,0,0,0⟩) with | .If _ x _ _ => x | _ => []) [(0, .str (tx a)), (1, .str (tx b)), (2, .int mc)] σ (Then pw w S0 (levC c m L FO) (levB 10) (RetK S0 c m KV)) := fun e => by
    refine ex_ret ?_
    refine ev_bin ?_
    refine ev_glob (V0 := .int 2) H.B rfl rfl ht2 ⟨_, rfl⟩ ?_
    refine ev_bin ?_
    refine ev_call ?_ -- len(a)
    refine ev_blt H.B rfl rfl (by decide) H.no_len boot_len ?_
    refine ⟨kpr_blt, ?_⟩
    refine evs_cons ?_
    refine ev_loc (i := 0) rfl rfl rfl rfl ?_ -- a
    refine evs_nil ?_
    refine cal_len_str (by rw [len_tx]; omega) ?_
    refine ev_call ?_ -- len(b)
    refine ev_blt H.B rfl rfl (by decide) H.no_len boot_len ?_
    refine ⟨kpr_blt, ?_⟩
    refine evs_cons ?_
    refine ev_loc (i := 1) rfl rfl rfl rfl ?_ -- b
    refine evs_nil ?_
    refine cal_len_str (by rw [len_tx]; omega) ?_
    rw [len_tx, len_tx]
    refine bin_add ?_
    refine bin_mul (IntMulOk.of_left (by decide +kernel)) ?_
    unfold levM at h
    rw [if_pos e] at h
    exact ret_sub (m' := []) (.refl _) h
  refine ex_if ?_
  refine et_or ?_
  refine et_not ?_
  refine et_plain ?_ -- a
  refine ev_loc (i := 0) rfl rfl rfl rfl ?_ -- a
  refine tru_tx ha ?_
  refine ⟨fun h1 => ?_, fun h1 => ⟨fun _ => fin1 (.inl (Classical.not_not.mp (of_decide_eq_false (by simpa using h1)))), fun e => (nomatch e)⟩⟩
  have hane : a ≠ [] := of_decide_eq_true (by simpa using h1)
  refine et_or ?_
  refine et_not ?_
  refine et_plain ?_ -- b
  refine ev_loc (i := 1) rfl rfl rfl rfl ?_ -- b
  refine tru_tx hb ?_
  refine ⟨fun h2 => ?_, fun h2 => ⟨fun _ => fin1 (.inr (Classical.not_not.mp (of_decide_eq_false (by simpa using h2)))), fun e => (nomatch e)⟩⟩
  have hbne : b ≠ [] := of_decide_eq_true (by simpa using h2)
  refine et_or_nil ?_
  refine ⟨fun e => (nomatch e), fun _ => ?_⟩
  refine ex_nil ?_
  have hlm : levM a b mc = if a.length > 40 ∨ b.length > 40 then mc + 1 else if b.length < a.length then levT b a mc else levT a b mc := by
    unfold levM; rw [if_neg (by simp [hane, hbne])]
  rw [hlm] at h
  -- if len(a) > _MAX_STRING_SIZE or len(b) > _MAX_STRING_SIZE:
  have fin2 : a.length > 40 ∨ b.length > 40 → Ex pw w S0 (levC c m L FO) (match (levB 10).headD (.Pass ⟨0,0,0,0⟩) with | .If _ x _ _ => x | _ => []) [(0, .str (tx a)), (1, .str (tx b)), (2, .int mc)] σ (Then pw w S0 (levC c m L FO) (levB 11) (RetK S0 c m KV)) := fun e => by
    refine ex_ret ?_
    refine ev_bin ?_
    refine ev_loc (i := 2) rfl rfl rfl rfl ?_ -- max_cost
    refine ev_int ?_ -- 1
    refine bin_add ?_
    rw [if_pos e] at h
    exact ret_sub (m' := []) (.refl _) h
  refine ex_if ?_
  refine et_or ?_
  refine et_cmp ?_ -- len(a) > _MAX_STRING_SIZE
  refine ev_call ?_ -- len(a)
  refine ev_blt H.B rfl rfl (by decide) H.no_len boot_len ?_
  refine ⟨kpr_blt, ?_⟩
  refine evs_cons ?_
  refine ev_loc (i := 0) rfl rfl rfl rfl ?_ -- a
  refine evs_nil ?_
  refine cal_len_str (by rw [len_tx]; omega) ?_
  rw [len_tx]
  refine ev_glob (V0 := .int 40) H.B rfl rfl ht4 ⟨_, rfl⟩ ?_
  refine cmp_gt ?_
  refine tru_bool ?_
  refine ⟨fun h3 => ?_, fun h3 => ⟨fun _ => fin2 (.inl (by have := of_decide_eq_true h3; omega)), fun e => (nomatch e)⟩⟩
  have h3 := of_decide_eq_false h3
  refine et_or ?_
  refine et_cmp ?_ -- len(b) > _MAX_STRING_SIZE
  refine ev_call ?_ -- len(b)
  refine ev_blt H.B rfl rfl (by decide) H.no_len boot_len ?_
  refine ⟨kpr_blt, ?_⟩
  refine evs_cons ?_
  refine ev_loc (i := 1) rfl rfl rfl rfl ?_ -- b
  refine evs_nil ?_
  refine cal_len_str (by rw [len_tx]; omega) ?_
  rw [len_tx]
  refine ev_glob (V0 := .int 40) H.B rfl rfl ht4 ⟨_, rfl⟩ ?_
  refine cmp_gt ?_
  refine tru_bool ?_
  refine ⟨fun h4 => ?_, fun h4 => ⟨fun _ => fin2 (.inr (by have := of_decide_eq_true h4; omega)), fun e => (nomatch e)⟩⟩
  have h4 := of_decide_eq_false h4
  refine et_or_nil ?_
  refine ⟨fun e => (nomatch e), fun _ => ?_⟩
  refine ex_nil ?_
  rw [if_neg (by omega)] at h
  -- if len(b) < len(a):
  refine ex_if ?_
  refine et_cmp ?_ -- len(b) < len(a)
  refine ev_call ?_ -- len(b)
  refine ev_blt H.B rfl rfl (by decide) H.no_len boot_len ?_
  refine ⟨kpr_blt, ?_⟩
  refine evs_cons ?_
  refine ev_loc (i := 1) rfl rfl rfl rfl ?_ -- b
  refine evs_nil ?_
  refine cal_len_str (by rw [len_tx]; omega) ?_
  refine ev_call ?_ -- len(a)
  refine ev_blt H.B rfl rfl (by decide) H.no_len boot_len ?_
  refine ⟨kpr_blt, ?_⟩
  refine evs_cons ?_
  refine ev_loc (i := 0) rfl rfl rfl rfl ?_ -- a
  refine evs_nil ?_
  refine cal_len_str (by rw [len_tx]; omega) ?_
  rw [len_tx, len_tx]
  refine cmp_lt ?_
  refine tru_bool ?_
  refine ⟨fun ht => ?_, fun hf => ?_⟩
  · rw [if_pos (by have := of_decide_eq_true ht; omega)] at h
    -- a, b = (b, a)
    refine ex_swap (n1 := "a") (n2 := "b") ?_
    refine ev_tuple ?_
    refine evs_cons ?_
    refine ev_loc (i := 1) rfl rfl rfl rfl ?_ -- b
    refine evs_cons ?_
    refine ev_loc (i := 0) rfl rfl rfl rfl ?_ -- a
    refine evs_nil ?_
    refine ⟨sz (by simp), fun tp => ?_⟩
    refine ⟨_, _, _, rfl, mem_st (.head _), ?_⟩
    refine sto_loc (i := 1) rfl rfl ?_
    refine sto_loc (i := 0) rfl rfl ?_
    refine ex_nil ?_
    refine Ex.wk (m' := [(0, .str (tx b)), (1, .str (tx a)), (2, .int mc)]) (.of ⟨rfl, rfl, rfl, trivial⟩ (.cons _ (.refl _))) ?_
    exact lev_tail FO H hroom hb ha hob hoa h
  · rw [if_neg (by have := of_decide_eq_false hf; omega)] at h
    refine ex_nil ?_
    exact lev_tail FO H hroom ha hb hoa hob h
end

theorem lev (H : Hd S0 mg mb) (hroom : c.A.depth + 1 < recursionLimit) {a b : List Nat} {mc : Int} (ha : a.length ≤ 1000000) (hb : b.length ≤ 1000000) (hoa : ∀ x ∈ a, Okc x) (hob : ∀ x ∈ b, Okc x)
    (h : KV (.int (levF a b mc)) σ) : Cal pw w S0 c m σ (.ref aLev) [.str (tx a), .str (tx b), .int mc] [] KV := by
  obtain ⟨pm, cd, FO⟩ := lev_ok H
  refine cal_def H.B FO (by omega) (binds_pos (ns := ["a", "b", "max_cost"]) rfl (fun vs hv => ?_) ⟨by rfl, fun L => ?_⟩)
  · obtain ⟨v, u, t, rfl⟩ := len3 hv
    rfl
  -- if a == b:
  refine ex_if ?_
  refine et_cmp ?_ -- a == b
  refine ev_loc (i := 0) rfl rfl rfl rfl ?_ -- a
  refine ev_loc (i := 1) rfl rfl rfl rfl ?_ -- b
  refine cmp_seq ?_
  refine tru_bool ?_
  rw [tx_beq]
  unfold levF at h
  refine ⟨fun ht => ?_, fun hf => ?_⟩
  · -- return 0
    rw [if_pos (eq_of_beq ht)] at h
    refine ex_ret ?_
    refine ev_int ?_ -- 0
    exact ret_sub (m' := []) (.refl _) h
  rw [if_neg (beq_eq_false_iff_ne.mp hf)] at h
  refine ex_nil ?_
  -- pre = 0
  refine ex_assign ?_
  refine ev_int ?_ -- 0
  refine sto_loc (i := 3) rfl rfl ?_ -- pre
  refine Ex.wk (m' := [(3, .int 0), (0, .str (tx a)), (1, .str (tx b)), (2, .int mc)]) (.of ⟨rfl, rfl, rfl, rfl, trivial⟩ (.refl _)) ?_
  refine lev_pre FO ha hb ?_
  obtain ⟨hp1, hp2⟩ := preL_le a b
  generalize preL a b = p at h hp1 hp2 ⊢
  -- a = a[pre:]
  refine ex_assign ?_
  refine ev_sslice ?_
  refine ev_loc (i := 0) rfl rfl rfl rfl ?_ -- a
  refine pt_some ?_
  refine ev_loc (i := 3) rfl rfl rfl rfl ?_ -- pre
  refine .inl ⟨_, rfl, ?_⟩
  refine pt_none ?_
  refine ⟨_, rfl, sz (by rw [len_tx]; exact ha), ?_⟩
  rw [slice_tx, cut_from]
  refine sto_loc (i := 0) rfl rfl ?_ -- a
  -- b = b[pre:]
  refine ex_assign ?_
  refine ev_sslice ?_
  refine ev_loc (i := 1) rfl rfl rfl rfl ?_ -- b
  refine pt_some ?_
  refine ev_loc (i := 3) rfl rfl rfl rfl ?_ -- pre
  refine .inl ⟨_, rfl, ?_⟩
  refine pt_none ?_
  refine ⟨_, rfl, sz (by rw [len_tx]; exact hb), ?_⟩
  rw [slice_tx, cut_from]
  refine sto_loc (i := 1) rfl rfl ?_ -- b
  -- post = 0
  refine ex_assign ?_
  refine ev_int ?_ -- 0
  refine sto_loc (i := 4) rfl rfl ?_ -- post
  have ha' : (a.drop p).length ≤ 1000000 := by simp; omega
  have hb' : (b.drop p).length ≤ 1000000 := by simp; omega
  have hoa' : ∀ x ∈ a.drop p, Okc x := fun x hx => hoa x (List.mem_of_mem_drop hx)
  have hob' : ∀ x ∈ b.drop p, Okc x := fun x hx => hob x (List.mem_of_mem_drop hx)
  generalize a.drop p = a' at h ha' hoa' ⊢
  generalize b.drop p = b' at h hb' hob' ⊢
  refine Ex.wk (m' := [(0, .str (tx a')), (1, .str (tx b')), (2, .int mc), (4, .int 0)]) (.of ⟨rfl, rfl, rfl, rfl, trivial⟩ (.refl _)) ?_
  refine lev_post FO ha' hb' ?_
  have hq1 : sufL a' b' ≤ a'.length := by have := (preL_le a'.reverse b'.reverse).1; simpa [sufL] using this
  have hq2 : sufL a' b' ≤ b'.length := by have := (preL_le a'.reverse b'.reverse).2; simpa [sufL] using this
  unfold levS2 at h
  generalize sufL a' b' = q at h hq1 hq2 ⊢
  -- a = a[:post or None]
  refine ex_assign ?_
  refine ev_cutpost (a := a') (q := q) FO (fun K' hk => ev_loc (i := 0) rfl rfl rfl rfl hk) rfl hq1 ha' ?_
  refine sto_loc (i := 0) rfl rfl ?_ -- a
  -- b = b[:post or None]
  refine ex_assign ?_
  refine ev_cutpost (a := b') (q := q) FO (fun K' hk => ev_loc (i := 1) rfl rfl rfl rfl hk) rfl hq2 hb' ?_
  refine sto_loc (i := 1) rfl rfl ?_ -- b
  refine Ex.wk (m' := [(0, .str (tx (a'.take (a'.length - q)))), (1, .str (tx (b'.take (b'.length - q)))), (2, .int mc)]) (.of ⟨rfl, rfl, rfl, trivial⟩ (.refl _)) ?_
  exact lev_mid FO H hroom (by simp; omega) (by simp; omega) (fun x hx => hoa' x (List.mem_of_mem_take hx)) (fun x hx => hob' x (List.mem_of_mem_take hx)) h
end
end Mine
end

section
set_option maxRecDepth 100000
namespace Mine
def aInit : Addr := 115
def aInitD : Addr := 108
def aConv : Addr := 122
def aGetAll : Addr := 160
def aGet : Addr := 168
def aGetD : Addr := 161
def aKeys : Addr := 173
def aAdd : Addr := 218
def aNameRe : Addr := 87
def aValueRe : Addr := 92
def nameCode : Array Nat := #[14, 10, 4, 1, 1, 22, 0, 31, 16, 127, 0, 13, 7, 22, 0, 31, 16, 127, 0, 1]
def valueCode : Array Nat := #[14, 14, 4, 1, 1, 9, 4294966783, 0, 0, 2147483648, 0, 0, 0, 0, 0, 13, 11, 9, 4294966783, 0, 0, 2147483648, 0, 0, 0, 0, 0, 1]
theorem head_name : Head4 nameCode := by unfold Head4; decide
theorem head_value : Head4 valueCode := by unfold Head4; decide
/-- signs that no header refuses -/
def Fine (l : List Nat) : Prop := ∀ c ∈ l, 32 ≤ c ∧ c ≠ 127
theorem unmet_name {l : List Nat} (h : Fine l) : Unmet nameCode (tx l).cps := fun c hc seen => by
  have hc : c ∈ l := by simpa [tx] using hc
  obtain ⟨h1, h2⟩ := h c hc
  have a1 : (decide (0 ≤ c) && decide (c ≤ 31)) = false := by simp; omega
  have a2 : (c == 127) = false := beq_eq_false_iff_ne.mpr h2
  refine ⟨((seen.add 22).add 16).add 0, ?_⟩
  show Sre.inSet nameCode c 20 5 true seen = _
  have s1 : Sre.inSet nameCode c 20 5 true seen = if (decide (0 ≤ c) && decide (c ≤ 31)) = true then .ok (true, seen.add 22) else Sre.inSet nameCode c 19 8 true (seen.add 22) := rfl
  have s2 : Sre.inSet nameCode c 19 8 true (seen.add 22) = if (c == 127) = true then .ok (true, (seen.add 22).add 16) else Sre.inSet nameCode c 18 10 true ((seen.add 22).add 16) := rfl
  rw [s1, a1, if_neg (by decide), s2, a2, if_neg (by decide)]
  rfl
theorem value_bits : ∀ c : Fin 256, 32 ≤ c.1 → c.1 ≠ 127 → (valueCode.getD (5 + (1 + c.1 / 32)) 0).testBit (c.1 % 32) = false := by decide +kernel
theorem unmet_value {l : List Nat} (h : Fine l) : Unmet valueCode (tx l).cps := fun c hc seen => by
  have hc : c ∈ l := by simpa [tx] using hc
  obtain ⟨h1, h2⟩ := h c hc
  have a1 : (decide (c < 256) && (valueCode.getD (5 + (1 + c / 32)) 0).testBit (c % 32)) = false := by
    by_cases hlt : c < 256
    · rw [value_bits ⟨c, hlt⟩ h1 h2, Bool.and_false]
    · rw [decide_eq_false hlt, Bool.false_and]
  refine ⟨(seen.add 9).add 0, ?_⟩
  show Sre.inSet valueCode c 28 5 true seen = _
  have s1 : Sre.inSet valueCode c 28 5 true seen = if (decide (c < 256) && (valueCode.getD (5 + (1 + c / 32)) 0).testBit (c % 32)) = true then .ok (true, seen.add 9) else Sre.inSet valueCode c 27 14 true (seen.add 9) := rfl
  rw [s1, a1, if_neg (by decide)]
  rfl

/-- what the class of the headers needs -/
structure Hc (S0 : Shared) (Kf : Frag) (mg mb : Str → Option Value) : Prop where
  H : Hd S0 mg mb
  ck : ClsOk S0 Kf aClass
  g_Headers : mg "Headers" = some (.ref aClass)
  g_name_re : mg "_name_disallowed_re" = some (.ref aNameRe)
  g_value_re : mg "_value_disallowed_re" = some (.ref aValueRe)
  re_name : IsRe S0.heap aNameRe nameCode
  re_value : IsRe S0.heap aValueRe valueCode
  sys : ∃ o, S0.heap.get? sysModules = some o
  c_init : findIn Kf (.ref aClass) "__init__" = some (some (.ref aInit))
  t_init : typeIn Kf (.ref aInit) = some (.type "function")
  c_conv : findIn Kf (.ref aClass) "_convert_string_type" = some (some (.ref aConv))
  t_conv : typeIn Kf (.ref aConv) = some (.type "function")
  c_get_all : findIn Kf (.ref aClass) "get_all" = some (some (.ref aGetAll))
  t_get_all : typeIn Kf (.ref aGetAll) = some (.type "function")
  c_get : findIn Kf (.ref aClass) "get" = some (some (.ref aGet))
  t_get : typeIn Kf (.ref aGet) = some (.type "function")
  c_add : findIn Kf (.ref aClass) "add_header" = some (some (.ref aAdd))
  t_add : typeIn Kf (.ref aAdd) = some (.type "function")
  c_hdr : findIn Kf (.ref aClass) "_headers" = some .none
  k_hdr : takerIn Kf aClass "_headers" = some .none
  f_init : FnAt S0 aInit (meth 0) "Headers.__init__" (.ref aInitD) .none
  d_init : ∃ n, S0.heap.get? aInitD = some ⟨.type "tuple", .none, .seq #[.none] n, #[]⟩
  f_conv : FnAt S0 aConv (meth 1) "Headers._convert_string_type" .none .none
  f_get_all : FnAt S0 aGetAll (meth 7) "Headers.get_all" .none .none
  f_get : FnAt S0 aGet (meth 8) "Headers.get" (.ref aGetD) .none
  d_get : ∃ n, S0.heap.get? aGetD = some ⟨.type "tuple", .none, .seq #[.none] n, #[]⟩
  f_add : FnAt S0 aAdd (meth 16) "Headers.add_header" .none .none

section
variable {w : World} {S0 : Shared} {Kf : Frag} {c : Cx} {m : Ms} {σ : Sto} {K : V → Sto → Prop} {mg mb : Str → Option Value}

theorem FnAt.kpr {a : Addr} {st : Stmt} {q : Str} {dV kV : Value} (h : FnAt S0 a st q dV kV) : Kpr pw w S0 (.ref a) := by
  obtain ⟨o, pm, cd, ho, hd, _⟩ := h.ex
  exact kpr_fn ho hd

/- _convert_string_type -/
theorem conv_ok (H : Hc S0 Kf mg mb) : ∃ pm cd, FnOk S0 aConv (mkFd (meth 1) "Headers._convert_string_type" pm cd .none .none) (bodyOf (meth 1)) (locals (scopeOf (meth 1))) :=
  H.f_conv.ok (fun _ _ => ⟨rfl, rfl, rfl, rfl, rfl, rfl, rfl⟩) rfl rfl rfl (by decide +kernel) (by decide +kernel) (by decide +kernel)
theorem conv (H : Hc S0 Kf mg mb) (hroom : c.A.depth < recursionLimit) {x : Addr} {l : List Nat} {b : Bool} (hl : Fine l) (hs : l.length ≤ 1000000) (h : K (.str (tx l)) σ) : Cal pw w S0 c m σ (.ref aConv) [.ref x, .str (tx l)] [("name", .bool b)] K := by
  obtain ⟨pm, cd, FO⟩ := conv_ok H
  refine cal_def H.H.B FO hroom (binds_of fun vs ks hv hk => ?_)
  obtain ⟨v, u, rfl, hv1, hv2⟩ := hv.two
  obtain ⟨k, rfl, hk1⟩ := RzL.one (x := .bool b) hk
  refine ⟨_, [("self", .ref x), ("value", .str (tx l)), ("name", .bool b)], rfl, rfl, ⟨hv1, hv2, hk1, trivial⟩, by rfl, fun L => ?_⟩
  -- if type(value) is str:
  refine ex_if ?_
  refine et_cmp ?_ -- type(value) is str
  refine ev_call ?_ -- type(value)
  refine ev_blt H.H.B rfl rfl (by decide) H.H.no_type boot_type ?_
  refine ⟨kpr_type, ?_⟩
  refine evs_cons ?_
  refine ev_loc (i := 1) rfl rfl rfl rfl ?_ -- value
  refine evs_nil ?_
  refine cal_type_str ?_
  refine ev_blt H.H.B rfl rfl (by decide) H.H.no_str boot_str ?_
  refine cmp_is_ty ?_
  refine tru_bool ?_
  refine ⟨fun ht => ?_, fun hf => by simp at hf⟩
  -- regex = _name_disallowed_re if name else _value_disallowed_re
  refine ex_assign ?_
  refine ev_if ?_ -- _name_disallowed_re if name else _value_disallowed_re
  refine et_plain ?_ -- name
  refine ev_loc (i := 2) rfl rfl rfl rfl ?_ -- name
  refine tru_bool ?_
  have tail : ∀ (a : Addr) (code : Array Nat) (m' : Ms), IsRe S0.heap a code → Head4 code → Unmet code (tx l).cps →
      Ex pw w S0 (c.into m (mkFd (meth 1) "Headers._convert_string_type" pm cd .none .none) aConv L (locals (scopeOf (meth 1))) FO.kind FO.glob FO.blt FO.nd)
        ((match (bodyOf (meth 1)).headD (.Pass ⟨0, 0, 0, 0⟩) with | .If _ x _ _ => x | _ => []).drop 1)
        [(3, .ref a), (1, .str (tx l))] σ (Then pw w S0 (c.into m (mkFd (meth 1) "Headers._convert_string_type" pm cd .none .none) aConv L (locals (scopeOf (meth 1))) FO.kind FO.glob FO.blt FO.nd) ((bodyOf (meth 1)).drop 1) (RetK S0 c m K)) := fun a code m' hre h4 hu => by
    -- if regex.search(value):
    refine ex_if ?_
    refine et_plain ?_ -- regex.search(value)
    refine ev_meth ?_ -- regex.search(value)
    refine ev_loc (i := 3) rfl rfl rfl rfl ?_ -- regex
    refine mth_search hre ?_
    refine ⟨kpr_blt, ?_⟩
    refine evs_cons ?_
    refine ev_loc (i := 1) rfl rfl rfl rfl ?_ -- value
    refine evs_nil ?_
    refine cal_search hre h4 hu (sz (by rw [len_tx]; exact hs)) ?_
    refine tru_none ?_
    refine ⟨fun e => (nomatch e), fun _ => ?_⟩
    refine ex_nil ?_
    -- return value
    refine ex_ret ?_
    refine ev_loc (i := 1) rfl rfl rfl rfl ?_ -- value
    exact ret_sub (m' := []) (.refl _) h
  refine ⟨fun ht => ?_, fun hf => ?_⟩
  · refine ev_glob (V0 := .ref aNameRe) H.H.B rfl rfl H.g_name_re rfl ?_
    refine sto_loc (i := 3) rfl rfl ?_ -- regex
    exact Ex.wk (m' := [(3, .ref aNameRe), (1, .str (tx l))]) (.of ⟨rfl, rfl, trivial⟩ (.refl _)) (tail _ _ m H.re_name head_name (unmet_name hl))
  · refine ev_glob (V0 := .ref aValueRe) H.H.B rfl rfl H.g_value_re rfl ?_
    refine sto_loc (i := 3) rfl rfl ?_ -- regex
    exact Ex.wk (m' := [(3, .ref aValueRe), (1, .str (tx l))]) (.of ⟨rfl, rfl, trivial⟩ (.refl _)) (tail _ _ m H.re_value head_value (unmet_value hl))
end
end Mine
end

section
set_option maxRecDepth 100000
namespace Mine
/-- a row of the table: where its tuple lies, its name, its value -/
abbrev Row := Addr × List Nat × List Nat
def rowO (t : Row) : Addr × O := (t.1, .tuple [.str (tx t.2.1), .str (tx t.2.2)])
def Tb (x d hl : Addr) (tbl : List Row) : Sto := (x, .inst aClass d) :: (d, .idict "_headers" (.ref hl)) :: (hl, .list (tbl.map fun t => V.ref t.1)) :: tbl.map rowO
section
variable {w : World} {S0 : Shared} {Kf : Frag} {c : Cx} {m : Ms} {σ : Sto} {K : V → Sto → Prop} {mg mb : Str → Option Value}

theorem ccal_def {a : Addr} {fd : FuncData} {body : List Stmt} {names : List Str} {xs : List V} (B : Bs S0 mg mb) (FO : FnOk S0 a fd body names) (hroom : c.A.depth < recursionLimit)
    (h : Binds pw w S0 c m σ fd xs [] fun bxs σ' => (bxs.all fun x => fd.scope.names.lookup x.1 == some .local || (fd.scope.names.lookup x.1 == some .cell && ((cellsFrom 0 fd.scope.names []).map (·.1)).contains x.1)) = true ∧
      ∀ L, Ex pw w S0 (c.into m fd a L names FO.kind FO.glob FO.blt FO.nd) body (bindMs (fun n => fd.scope.names.lookup n) names bxs [])
        (cellObjs (cellsFrom (L + 1) fd.scope.names []) (bindCs (fun n => fd.scope.names.lookup n) bxs fun _ => .none) ++ σ') (RetK S0 c m K)) : CCal pw w S0 c m σ (.ref a) xs K := fun fv vs hf hv s R Rr k => by
  obtain rfl : fv = .ref a := hf
  exact code_def (kws := []) (ks := []) B FO hroom h hv trivial R k

/- __init__ -/
theorem init_ok (H : Hc S0 Kf mg mb) : ∃ pm cd, FnOk S0 aInit (mkFd (meth 0) "Headers.__init__" pm cd (.ref aInitD) .none) (bodyOf (meth 0)) (locals (scopeOf (meth 0))) :=
  H.f_init.ok (fun _ _ => ⟨rfl, rfl, rfl, rfl, rfl, rfl, rfl⟩) rfl rfl rfl (by decide +kernel) (by decide +kernel) (by decide +kernel)
theorem init (H : Hc S0 Kf mg mb) (hroom : c.A.depth < recursionLimit) {x d : Addr} (h : ∀ hl, K .none (Tb x d hl [] ++ σ)) : CCal pw w S0 c m ((x, .inst aClass d) :: (d, .edict) :: σ) (.ref aInit) [.ref x] K := by
  obtain ⟨pm, cd, FO⟩ := init_ok H
  obtain ⟨n, hT⟩ := H.d_init
  refine ccal_def H.H.B FO hroom (binds_dflt (T := aInitD) hT rfl rfl fun vs ks hv hk => ?_)
  obtain ⟨v, rfl, hv1⟩ := hv.one
  cases ks with
  | cons => exact hk.elim
  | nil =>
  refine ⟨_, [("self", .ref x), ("headers", .none)], _, rfl, rfl, rfl, ⟨hv1, rfl, trivial⟩, by rfl, fun L => ?_⟩
  -- headers = headers if headers is not None else []
  refine ex_assign ?_
  refine ev_if ?_ -- headers if headers is not None else []
  refine et_cmp ?_ -- headers is not None
  refine ev_loc (i := 1) rfl rfl rfl rfl ?_ -- headers
  refine ev_none ?_
  refine cmp_isnot_none nn_none ?_
  refine tru_bool ?_
  refine ⟨fun e => (nomatch e), fun _ => ?_⟩
  refine ev_list ?_
  refine evs_nil ?_
  refine ⟨sz (by simp), fun hl => ?_⟩
  refine sto_loc (i := 1) rfl rfl ?_ -- headers
  -- if type(headers) is not list:
  refine ex_if ?_
  refine et_cmp ?_ -- type(headers) is not list
  refine ev_call ?_ -- type(headers)
  refine ev_blt H.H.B rfl rfl (by decide) H.H.no_type boot_type ?_
  refine ⟨kpr_type, ?_⟩
  refine evs_cons ?_
  refine ev_loc (i := 1) rfl rfl rfl rfl ?_ -- headers
  refine evs_nil ?_
  refine cal_type_list (mem_st (.head _)) ?_
  refine ev_blt H.H.B rfl rfl (by decide) H.H.no_list boot_list ?_
  refine cmp_isnot_ty ?_
  refine tru_bool ?_
  refine ⟨fun e => by simp at e, fun _ => ?_⟩
  refine ex_nil ?_
  -- self._headers = headers
  refine ex_setattr (Kf := Kf) ?_
  refine ev_loc (i := 1) rfl rfl rfl rfl ?_ -- headers
  refine ev_loc (i := 0) rfl rfl rfl rfl ?_ -- self
  refine ⟨x, aClass, d, _, rfl, mem_st (.tail _ (.head _)), .tail (.tail .head), H.ck, H.k_hdr, ?_⟩
  -- if __debug__:
  refine ex_if ?_
  refine et_plain ?_ -- __debug__
  refine ev_bool ?_
  refine tru_bool ?_
  refine ⟨fun _ => ?_, fun e => (nomatch e)⟩
  -- for k, v in headers:
  refine ex_for ?_
  refine ev_loc (i := 1) rfl rfl rfl rfl ?_ -- headers
  refine ⟨[], _, itb_list, ?_⟩
  refine ⟨mem_st (.head _), ?_⟩
  refine ex_nil (ex_nil ?_)
  refine ⟨Tb x d hl [] ++ σ, Imp.perm (.cons _ (.append_left _ ?_)), h hl⟩
  show List.Perm ((hl, O.list []) :: (x, .inst aClass d) :: (d, .idict "_headers" (.ref hl)) :: σ) ((x, .inst aClass d) :: (d, .idict "_headers" (.ref hl)) :: (hl, .list []) :: σ)
  exact (List.Perm.swap ..).trans (.cons _ (.swap ..))
/-- Headers() -/
theorem mk_headers (H : Hc S0 Kf mg mb) (hroom : c.A.depth + 1 < recursionLimit) (h : ∀ x d hl, K (.ref x) (Tb x d hl [] ++ σ)) : Cal pw w S0 c m σ (.ref aClass) [] [] K :=
  cal_make H.ck H.c_init H.t_init fun x d => init H (by
    show (c.A.under _).depth < _
    have : (c.A.under (.builtin "type.__call__" ⟨[.ref aClass], []⟩)).depth ≤ c.A.depth + 1 := by
      show c.A.depth + (Code.builtin "type.__call__" ⟨[.ref aClass], []⟩).weight ≤ _
      have : (Code.builtin "type.__call__" ⟨[.ref aClass], []⟩).weight ≤ 1 := by decide +kernel
      omega
    omega) fun hl => ⟨rfl, h x d hl⟩
end
end Mine
end

section
set_option maxRecDepth 100000
namespace Mine
def Ltr (l : List Nat) : Prop := ∀ c ∈ l, 65 ≤ c ∧ c < 127
theorem Ltr.fine {l : List Nat} (h : Ltr l) : Fine l := fun c hc => by have := h c hc; omega
theorem Ltr.fine_lo {l : List Nat} (h : Ltr l) : Fine (l.map lo1) := fun c hc => by
  obtain ⟨a, ha, rfl⟩ := List.mem_map.mp hc
  have := h a ha
  unfold lo1; split <;> omega
theorem Ltr.lower {l : List Nat} (h : Ltr l) : PySem.Txt.lower (tx l) = tx (l.map lo1) := lower_tx fun c hc => by have := h c hc; omega
section
variable {w : World} {S0 : Shared} {Kf : Frag} {c : Cx} {m : Ms} {σ : Sto} {K : V → Sto → Prop} {mg mb : Str → Option Value}

/- get_all -/
theorem get_all_ok (H : Hc S0 Kf mg mb) : ∃ pm cd, FnOk S0 aGetAll (mkFd (meth 7) "Headers.get_all" pm cd .none .none) (bodyOf (meth 7)) (locals (scopeOf (meth 7))) :=
  H.f_get_all.ok (fun _ _ => ⟨rfl, rfl, rfl, rfl, rfl, rfl, rfl⟩) rfl rfl rfl (by decide +kernel) (by decide +kernel) (by decide +kernel)
def gotAll (tbl : List Row) (nm : List Nat) : List (List Nat) := (tbl.filter fun t => t.2.1.map lo1 == nm.map lo1).map fun t => t.2.2
theorem get_all (H : Hc S0 Kf mg mb) (hroom : c.A.depth + 1 < recursionLimit) {x d hl : Addr} {tbl : List Row} {nm : List Nat} (hn : Ltr nm) (hnl : nm.length ≤ 100000) (ht : ∀ t ∈ tbl, Ltr t.2.1 ∧ t.2.1.length ≤ 100000) (hs : tbl.length ≤ 1000000)
    (hT : ∀ p ∈ Tb x d hl tbl, p ∈ σ) (h : ∀ a, K (.ref a) ((a, .list ((gotAll tbl nm).map fun v => V.str (tx v))) :: σ)) : Cal pw w S0 c m σ (.ref aGetAll) [.ref x, .str (tx nm)] [] K := by
  obtain ⟨pm, cd, FO⟩ := get_all_ok H
  refine cal_def H.H.B FO (by omega) (binds_pos (ns := ["self", "name"]) rfl (fun vs hv => ?_) ⟨by rfl, fun L => ?_⟩)
  · obtain ⟨v, u, rfl⟩ := len2 hv
    rfl
  show Ex pw w S0 _ _ [(0, .ref x)] ((L + 1, .cell (some (.str (tx nm)))) :: σ) _
  have hx : (x, O.inst aClass d) ∈ σ := hT _ (.head _)
  have hd : (d, O.idict "_headers" (.ref hl)) ∈ σ := hT _ (.tail _ (.head _))
  have hh : (hl, O.list (tbl.map fun t => V.ref t.1)) ∈ σ := hT _ (.tail _ (.tail _ (.head _)))
  have hr : ∀ t ∈ tbl, rowO t ∈ σ := fun t h => hT _ (.tail _ (.tail _ (.tail _ (List.mem_map_of_mem h))))
  -- name = self._convert_string_type(name.lower(), name=True)
  refine ex_assign ?_
  refine ev_meth_kw ?_ -- self._convert_string_type(name.lower(), name=True)
  refine ev_loc (i := 0) rfl rfl rfl rfl ?_ -- self
  refine mth_own (mem_st (.tail _ hx)) (mem_st (.tail _ hd)) H.ck H.c_conv H.t_conv (by decide) ?_
  refine ⟨H.f_conv.kpr, ?_⟩
  refine ev_meth ?_ -- name.lower()
  refine ev_cell (Or.inl rfl) rfl rfl rfl (.head _) ?_ -- name
  refine mth_lower ?_
  refine ⟨kpr_blt, ?_⟩
  refine evs_nil ?_
  refine cal_lower (by rw [len_tx]; omega) ?_
  rw [hn.lower]
  refine ev_bool ?_
  refine conv H (by show c.A.depth + 1 < _; exact hroom) hn.fine_lo (by simp; omega) ?_
  refine sto_cell rfl rfl .head ?_ -- name
  -- return [kv[1] for kv in self._headers if kv[0].lower() == name]
  refine ex_ret ?_
  refine ev_comp (cl := [("name", L + 1)]) (names := [".0", "kv"]) (nd := by decide +kernel) rfl (by decide +kernel) (by decide +kernel) rfl ?_
  refine ev_attr (Kf := Kf) ?_ -- self._headers
  refine ev_loc (i := 0) rfl rfl rfl rfl ?_ -- self
  refine ⟨x, aClass, d, hl, rfl, mem_st (.tail _ hx), mem_st (.tail _ hd), H.ck, H.c_hdr, ?_⟩
  refine ⟨_, _, itb_list, mem_st (.tail _ hh), fun L2 => ?_⟩
  refine ct_filterA (fun t : Row => V.ref t.1) (fun t => t.2.1.map lo1 == nm.map lo1) (fun t => V.str (tx t.2.2)) (mem_st (.tail _ hh)) (sz hs) (fun t hm p q => ?_) ?_
  · obtain ⟨hl1, hl2⟩ := ht t hm
    refine asg_name (sto_loc (i := 1) rfl rfl ?_)
    refine et_cmp ?_ -- kv[0].lower() == name
    refine ev_meth ?_ -- kv[0].lower()
    refine ev_sub ?_
    refine ev_loc (i := 1) rfl rfl rfl rfl ?_ -- kv
    refine ev_int ?_ -- 0
    refine sub_tuple (i := 0) (xs := [.str (tx t.2.1), .str (tx t.2.2)]) (.tail _ (hr t hm)) (by decide) rfl ?_
    refine mth_lower ?_
    refine ⟨kpr_blt, ?_⟩
    refine evs_nil ?_
    refine cal_lower (by rw [len_tx]; omega) ?_
    rw [hl1.lower]
    refine ev_cell (Or.inl rfl) rfl rfl rfl (.head _) ?_ -- name
    refine cmp_seq ?_
    refine tru_bool ?_
    refine ⟨tx_beq _ _, .refl _, fun _ => ?_⟩
    refine ev_sub ?_
    refine ev_loc (i := 1) rfl rfl rfl rfl ?_ -- kv
    refine ev_int ?_ -- 1
    refine sub_tuple (i := 1) (xs := [.str (tx t.2.1), .str (tx t.2.2)]) (.tail _ (hr t hm)) (by decide) rfl ?_
    exact ⟨rfl, .refl _⟩
  · refine ⟨_, .refl _, fun a => ?_⟩
    have e : ((tbl.filter fun t => t.2.1.map lo1 == nm.map lo1).map fun t => V.str (tx t.2.2)) = (gotAll tbl nm).map fun v => V.str (tx v) := by unfold gotAll; rw [List.map_map]; rfl
    rw [e]
    exact ret_sub (.cons_cons _ (.cons _ (.refl _))) (h a)

end
end Mine
end

section
set_option maxRecDepth 100000
namespace Mine
section
variable {w : World} {S0 : Shared} {Kf : Frag} {c : Cx} {m : Ms} {σ : Sto} {K : V → Sto → Prop} {mg mb : Str → Option Value}
theorem add_ok (H : Hc S0 Kf mg mb) : ∃ pm cd, FnOk S0 aAdd (mkFd (meth 16) "Headers.add_header" pm cd .none .none) (bodyOf (meth 16)) (locals (scopeOf (meth 16))) :=
  H.f_add.ok (fun _ _ => ⟨rfl, rfl, rfl, rfl, rfl, rfl, rfl⟩) rfl rfl rfl (by decide +kernel) (by decide +kernel) (by decide +kernel)
theorem add_header (H : Hc S0 Kf mg mb) (hroom : c.A.depth + 1 < recursionLimit) {x d hl : Addr} {tbl : List Row} {nm vl : List Nat} (hn : Ltr nm) (hnl : nm.length ≤ 100000) (hv : Fine vl) (hvl : vl.length ≤ 1000000) (hs : tbl.length ≤ 1000000)
    (h : ∀ t, K .none (Tb x d hl (tbl ++ [(t, nm, vl)]) ++ σ)) : Cal pw w S0 c m (Tb x d hl tbl ++ σ) (.ref aAdd) [.ref x, .str (tx nm), .str (tx vl)] [] K := by
  obtain ⟨pm, cd, FO⟩ := add_ok H
  refine cal_def H.H.B FO (by omega) (binds_kwargs fun vs hvs => ?_)
  obtain ⟨v1, v2, v3, rfl, q1, q2, q3⟩ := hvs.three
  refine ⟨fun pd => [("self", v1), ("_name", v2), ("_value", v3), ("_params", .ref pd)], fun pd => [("self", .ref x), ("_name", .str (tx nm)), ("_value", .str (tx vl)), ("_params", .ref pd)], rfl, fun pd => ⟨rfl, ⟨q1, q2, q3, rfl, trivial⟩, by rfl, fun L => ?_⟩⟩
  show Ex pw w S0 _ _ _ ((pd, .edict) :: (x, .inst aClass d) :: (d, .idict "_headers" (.ref hl)) :: (hl, .list (tbl.map fun t => V.ref t.1)) :: (tbl.map rowO ++ σ)) _
  -- parts = []
  refine ex_assign ?_
  refine ev_list ?_
  refine evs_nil ?_
  refine ⟨sz (by simp), fun pl => ?_⟩
  refine sto_loc (i := 4) rfl rfl ?_ -- parts
  -- if _value is not None:
  refine ex_if ?_
  refine et_cmp ?_ -- _value is not None
  refine ev_loc (i := 2) rfl rfl rfl rfl ?_ -- _value
  refine ev_none ?_
  refine cmp_isnot_none nn_str ?_
  refine tru_bool ?_
  refine ⟨fun _ => ?_, fun e => (nomatch e)⟩
  -- _value = self._convert_string_type(_value, name=False)
  refine ex_assign ?_
  refine ev_meth_kw ?_ -- self._convert_string_type(_value, name=False)
  refine ev_loc (i := 0) rfl rfl rfl rfl ?_ -- self
  refine mth_own (mem_st (.tail _ (.tail _ (.head _)))) (mem_st (.tail _ (.tail _ (.tail _ (.head _))))) H.ck H.c_conv H.t_conv (by decide) ?_
  refine ⟨H.f_conv.kpr, ?_⟩
  refine ev_loc (i := 2) rfl rfl rfl rfl ?_ -- _value
  refine ev_bool ?_
  refine conv H (by show c.A.depth + 1 < _; exact hroom) hv hvl ?_
  refine sto_loc (i := 2) rfl rfl ?_ -- _value
  -- parts.append(_value)
  refine ex_expr ?_
  refine ev_meth ?_ -- parts.append(_value)
  refine ev_loc (i := 4) rfl rfl rfl rfl ?_ -- parts
  refine mth_append (mem_st (.head _)) ?_
  refine ⟨kpr_blt, ?_⟩
  refine evs_cons ?_
  refine ev_loc (i := 2) rfl rfl rfl rfl ?_ -- _value
  refine evs_nil ?_
  refine cal_append .head (sz (by simp)) ?_
  refine ex_nil ?_
  -- for k, v in _params.items():
  refine ex_for ?_
  refine ev_meth ?_ -- _params.items()
  refine ev_loc (i := 3) rfl rfl rfl rfl ?_ -- _params
  refine mth_items (mem_st (.tail _ (.head _))) ?_
  refine ⟨kpr_blt, ?_⟩
  refine evs_nil ?_
  refine cal_items (mem_st (.tail _ (.head _))) H.sys fun iv => ?_
  refine ⟨[], _, itb_items (d := pd), ?_⟩
  refine ⟨⟨mem_st (.head _), mem_st (.tail _ (.tail _ (.head _)))⟩, ?_⟩
  -- self._headers.append((self._convert_string_type(_name, name=True), '; '.join(parts)))
  refine ex_expr ?_
  refine ev_meth ?_
  refine ev_attr (Kf := Kf) ?_ -- self._headers
  refine ev_loc (i := 0) rfl rfl rfl rfl ?_ -- self
  refine ⟨x, aClass, d, hl, rfl, mem_st (.tail _ (.tail _ (.tail _ (.head _)))), mem_st (.tail _ (.tail _ (.tail _ (.tail _ (.head _))))), H.ck, H.c_hdr, ?_⟩
  refine mth_append (mem_st (.tail _ (.tail _ (.tail _ (.tail _ (.tail _ (.head _))))))) ?_
  refine ⟨kpr_blt, ?_⟩
  refine evs_cons ?_
  refine ev_tuple ?_
  refine evs_cons ?_
  refine ev_meth_kw ?_ -- self._convert_string_type(_name, name=True)
  refine ev_loc (i := 0) rfl rfl rfl rfl ?_ -- self
  refine mth_own (mem_st (.tail _ (.tail _ (.tail _ (.head _))))) (mem_st (.tail _ (.tail _ (.tail _ (.tail _ (.head _)))))) H.ck H.c_conv H.t_conv (by decide) ?_
  refine ⟨H.f_conv.kpr, ?_⟩
  refine ev_loc (i := 1) rfl rfl rfl rfl ?_ -- _name
  refine ev_bool ?_
  refine conv H (by show c.A.depth + 1 < _; exact hroom) hn.fine (by omega) ?_
  refine evs_cons ?_
  refine ev_meth ?_ -- '; '.join(parts)
  refine ev_str ?_ -- '; '
  refine mth_join ?_
  refine ⟨kpr_blt, ?_⟩
  refine evs_cons ?_
  refine ev_loc (i := 4) rfl rfl rfl rfl ?_ -- parts
  refine evs_nil ?_
  refine cal_join (ys := [tx vl]) (mem_st (.tail _ (.head _))) ?_ ?_
  · have e : (PySem.Str.ofString "; ").length = 2 := by rfl
    rw [e]
    simp [len_tx]; omega
  rw [join_one']
  refine evs_nil ?_
  refine ⟨sz (by simp), fun tp => ?_⟩
  refine evs_nil ?_
  refine cal_append (.tail (.tail (.tail (.tail (.tail (.tail .head)))))) (sz (by simp; omega)) ?_
  refine ex_nil ?_
  refine ⟨Tb x d hl (tbl ++ [(tp, nm, vl)]) ++ σ, ?_, h tp⟩
  have e1 : (tbl.map fun t => V.ref t.1) ++ [V.ref tp] = (tbl ++ [(tp, nm, vl)]).map fun t => V.ref t.1 := by simp
  have e2 : (tbl ++ [(tp, nm, vl)]).map rowO = tbl.map rowO ++ [(tp, O.tuple [V.str (tx nm), V.str (tx vl)])] := by simp [rowO]
  rw [e1]
  refine Imp.trans (Imp.perm (τ' := c.st m ((iv, .obj (itemsObj pd)) :: (pl, .list [V.str (tx vl)]) :: (pd, .edict) :: (Tb x d hl (tbl ++ [(tp, nm, vl)]) ++ σ))) (.cons _ (.append_left _ ?_))) (Wk.imp ⟨fun _ _ h => h, .cons _ (.cons _ (.cons _ (.refl _)))⟩)
  have key : ∀ (A : Sto) (p : Addr × O) (B : Sto), (p :: (A ++ B)).Perm (A ++ p :: B) := fun A p B => List.perm_middle.symm
  have := key ([(iv, .obj (itemsObj pd)), (pl, .list [V.str (tx vl)]), (pd, .edict), (x, .inst aClass d), (d, .idict "_headers" (.ref hl)), (hl, .list ((tbl ++ [(tp, nm, vl)]).map fun t => V.ref t.1))] ++ tbl.map rowO) (tp, O.tuple [V.str (tx nm), V.str (tx vl)]) σ
  unfold Tb
  rw [e2]
  simp only [List.cons_append, List.nil_append, List.append_assoc] at this ⊢
  exact this
end
end Mine
end

section
set_option maxRecDepth 100000
namespace Mine
def minL : List Int → Int
  | [] => 0
  | x :: xs => xs.foldl min x
def maxL : List Int → Int
  | [] => 0
  | x :: xs => xs.foldl max x
theorem foldl_min_le (xs : List Int) : ∀ x, xs.foldl min x ≤ x ∧ (∀ a ∈ xs, xs.foldl min x ≤ a) ∧ (xs.foldl min x = x ∨ xs.foldl min x ∈ xs) := by
  induction xs with
  | nil => intro x; simp
  | cons y ys ih =>
    intro x
    obtain ⟨h1, h2, h3⟩ := ih (min x y)
    refine ⟨by rw [List.foldl_cons]; omega, fun a ha => ?_, ?_⟩
    · rw [List.foldl_cons]
      rcases List.mem_cons.mp ha with rfl | ha
      · omega
      · exact h2 a ha
    · rw [List.foldl_cons]
      rcases h3 with h3 | h3
      · rcases Int.le_total x y with h | h
        · left; rw [h3]; omega
        · right; rw [h3, show min x y = y by omega]; exact .head _
      · right; exact .tail _ h3
theorem foldl_max_le (xs : List Int) : ∀ x, x ≤ xs.foldl max x ∧ (∀ a ∈ xs, a ≤ xs.foldl max x) ∧ (xs.foldl max x = x ∨ xs.foldl max x ∈ xs) := by
  induction xs with
  | nil => intro x; simp
  | cons y ys ih =>
    intro x
    obtain ⟨h1, h2, h3⟩ := ih (max x y)
    refine ⟨by rw [List.foldl_cons]; omega, fun a ha => ?_, ?_⟩
    · rw [List.foldl_cons]
      rcases List.mem_cons.mp ha with rfl | ha
      · omega
      · exact h2 a ha
    · rw [List.foldl_cons]
      rcases h3 with h3 | h3
      · rcases Int.le_total x y with h | h
        · right; rw [h3, show max x y = y by omega]; exact .head _
        · left; rw [h3]; omega
      · right; exact .tail _ h3
theorem minL_spec {ns : List Int} (h : ns ≠ []) : minL ns ∈ ns ∧ ∀ a ∈ ns, minL ns ≤ a := by
  cases ns with
  | nil => exact (h rfl).elim
  | cons x xs =>
    obtain ⟨h1, h2, h3⟩ := foldl_min_le xs x
    refine ⟨?_, fun a ha => ?_⟩
    · rcases h3 with h3 | h3
      · show xs.foldl min x ∈ _; rw [h3]; exact .head _
      · exact .tail _ h3
    · rcases List.mem_cons.mp ha with rfl | ha
      · exact h1
      · exact h2 a ha
theorem maxL_spec {ns : List Int} (h : ns ≠ []) : maxL ns ∈ ns ∧ ∀ a ∈ ns, a ≤ maxL ns := by
  cases ns with
  | nil => exact (h rfl).elim
  | cons x xs =>
    obtain ⟨h1, h2, h3⟩ := foldl_max_le xs x
    refine ⟨?_, fun a ha => ?_⟩
    · rcases h3 with h3 | h3
      · show xs.foldl max x ∈ _; rw [h3]; exact .head _
      · exact .tail _ h3
    · rcases List.mem_cons.mp ha with rfl | ha
      · exact h1
      · exact h2 a ha
section
variable {prog : Program} {w : World} {S0 : Shared} {c : Cx} {m : Ms} {σ : Sto} {K : V → Sto → Prop}
theorem int_items {a : Addr} {ns : List Int} {s : Shared} (R : Rel S0 (c.st m σ) s) (ha : (a, O.list (ns.map .int)) ∈ c.st m σ) : ∃ xs : List (Int × Tok), s.heap.IsList a (intItems xs.toArray) ∧ xs.map (·.1) = ns := by
  obtain ⟨us, n, hl, hz⟩ := list_at R ha
  obtain ⟨xs, rfl, rfl⟩ := ints_of hz
  have := hl.isList
  rw [show (xs.map fun p => Value.int p.1 p.2).toArray = intItems xs.toArray by simp [intItems]] at this
  exact ⟨xs, this, rfl⟩
theorem cal_min_list {a : Addr} {ns : List Int} (ha : (a, O.list (ns.map .int)) ∈ c.st m σ) (hne : ns ≠ []) (h : K (.int (minL ns)) σ) : Cal prog w S0 c m σ (.abs (.builtin "min")) [.ref a] [] K := cal_bi fun vs hv s R Q E k => by
  obtain ⟨v, rfl, rfl⟩ := hv.one
  obtain ⟨xs, hl, rfl⟩ := int_items R ha
  have hsz : 0 < xs.toArray.size := by
    cases xs with
    | nil => exact (hne rfl).elim
    | cons => simp
  refine min_intList c.hand hl hsz fun v h' tk hv hk => ?_
  obtain ⟨t, rfl⟩ := intItems_at hv
  obtain ⟨h1, h2⟩ := argBest_lt (numAt xs.toArray) (xs.toArray.size - 1)
  obtain ⟨m1, m2⟩ := minL_spec hne
  refine k _ (.int (minL (xs.map (·.1)))) σ _ (R.keeps hk tk) ⟨t, ?_⟩ h
  congr 1
  have e1 : numAt xs.toArray (argBest (fun i j => decide (numAt xs.toArray i < numAt xs.toArray j)) (xs.toArray.size - 1)) ∈ xs.map (·.1) := by
    rw [numAt_eq]
    refine getD_mem ?_
    simp only [List.length_map, List.size_toArray] at *
    omega
  have e2 := m2 _ e1
  obtain ⟨j, hj, ej⟩ := mem_getD m1
  rw [List.length_map] at hj
  have e3 := h2 j (by simp only [List.size_toArray] at *; omega)
  have e4 : numAt xs.toArray j = minL (xs.map (·.1)) := by rw [numAt_eq]; exact ej
  omega
theorem cal_max_list {a : Addr} {ns : List Int} (ha : (a, O.list (ns.map .int)) ∈ c.st m σ) (hne : ns ≠ []) (h : K (.int (maxL ns)) σ) : Cal prog w S0 c m σ (.abs (.builtin "max")) [.ref a] [] K := cal_bi fun vs hv s R Q E k => by
  obtain ⟨v, rfl, rfl⟩ := hv.one
  obtain ⟨xs, hl, rfl⟩ := int_items R ha
  have hsz : 0 < xs.toArray.size := by
    cases xs with
    | nil => exact (hne rfl).elim
    | cons => simp
  refine max_intList c.hand hl hsz fun v h' tk hv hk => ?_
  obtain ⟨t, rfl⟩ := intItems_at hv
  obtain ⟨h1, h2⟩ := argBest_gt (numAt xs.toArray) (xs.toArray.size - 1)
  obtain ⟨m1, m2⟩ := maxL_spec hne
  refine k _ (.int (maxL (xs.map (·.1)))) σ _ (R.keeps hk tk) ⟨t, ?_⟩ h
  congr 1
  have e1 : numAt xs.toArray (argBest (fun i j => decide (numAt xs.toArray i > numAt xs.toArray j)) (xs.toArray.size - 1)) ∈ xs.map (·.1) := by
    rw [numAt_eq]
    refine getD_mem ?_
    simp only [List.length_map, List.size_toArray] at *
    omega
  have e2 := m2 _ e1
  obtain ⟨j, hj, ej⟩ := mem_getD m1
  rw [List.length_map] at hj
  have e3 := h2 j (by simp only [List.size_toArray] at *; omega)
  have e4 : numAt xs.toArray j = maxL (xs.map (·.1)) := by rw [numAt_eq]; exact ej
  omega
theorem Turns.perm {P : Sto → Prop} {t : Expr} {body rest : List Stmt} {K : Fl → Ms → Sto → Prop} {τ : Sto} {xs : List V} (hP : P (c.st m σ)) (h : σ.Perm τ) (k : Turns prog w S0 c P t body rest K xs m τ) : Turns prog w S0 c P t body rest K xs m σ := by
  cases xs with
  | nil => exact ⟨hP, Tr.weak (Imp.perm (.cons _ (.append_left _ h))) k.2⟩
  | cons x xs => exact ⟨hP, fun p v hv => Tr.weak (Imp.perm (.cons _ (.append_left _ h))) (k.2 p v hv)⟩
theorem cal_str_int {i : Int} (hi : i.natAbs.log2 < 1920) (h : K (.str (toString i)) σ) : Cal prog w S0 c m σ (.abs (.type "str")) [.int i] [] K := cal_ty fun vs hv s R Q E k => by
  obtain ⟨v, rfl, t, rfl⟩ := hv.one
  exact P.str_of_int hi (k _ (.str (toString i)) _ _ (R.toks _) ⟨_, rfl⟩ h)
end
end Mine
end

section
set_option maxRecDepth 100000
namespace Mine
def bit (k j : Nat) : Bool := decide (k / 2 ^ j % 2 = 1)
theorem et_bit {prog : Program} {w : World} {S0 : Shared} {cc : Cx} {m : Ms} {σ : Sto} {K : Bool → Sto → Prop} {ch j : Nat} (h : K (bit ch j) σ) : Tru prog w S0 cc m σ (.int ((ch / 2 ^ j % 2 : Nat) : Int)) K := by
  refine tru_int ?_
  have : (((ch / 2 ^ j % 2 : Nat) : Int) != 0) = bit ch j := by
    unfold bit
    rw [Bool.eq_iff_iff, decide_eq_true_eq, bne_iff_ne]; omega
  rw [this]; exact h
/-- a row of signs -/
def sgV (l : List Nat) : List V := l.map fun c => V.str (one c)
def lettersL (ch : Nat) (ls : List Nat) : List Nat := ((List.range 3).filter (bit ch)).map fun j => ls.getD j 0
theorem lettersL_len (ch : Nat) (ls : List Nat) : (lettersL ch ls).length ≤ 3 := by
  unfold lettersL
  rw [List.length_map]
  exact Nat.le_trans (List.length_filter_le _ _) (by simp)
def overC (word part : List Nat) (great : Nat) : Int :=
  if part.length ≤ word.length then levF part word (2 * ((word.length : Int) - part.length) + great) - (2 * ((word.length : Int) - part.length) + great) else 1
section
variable {w : World} {S0 : Shared} {c : Cx} {m : Ms} {σ : Sto} {K : V → Sto → Prop} {mg mb : Str → Option Value}
theorem letters_ok (H : Hd S0 mg mb) : ∃ pm cd, FnOk S0 aLetters (mkFd stLetters "_law_letters" pm cd .none .none) (bodyOf stLetters) (locals (scopeOf stLetters)) :=
  H.f_letters.ok (fun _ _ => ⟨rfl, rfl, rfl, rfl, rfl, rfl, rfl⟩) rfl rfl rfl (by decide +kernel) (by decide +kernel) (by decide +kernel)
theorem letters (H : Hd S0 mg mb) (hroom : c.A.depth < recursionLimit) {ch : Nat} {la : Addr} {ls : List Nat} (hl : ls.length = 3) (hla : (la, O.list (sgV ls)) ∈ σ) (h : K (.str (tx (lettersL ch ls))) σ) : Cal pw w S0 c m σ (.ref aLetters) [.int ch, .ref la] [] K := by
  obtain ⟨pm, cd, FO⟩ := letters_ok H
  refine cal_def H.B FO hroom (binds_pos (ns := ["choice", "letters"]) rfl (fun vs hv => ?_) ⟨by rfl, fun L => ?_⟩)
  · obtain ⟨v, u, rfl⟩ := len2 hv
    rfl
  show Ex pw w S0 _ _ [] ((L + 1 + 1, .cell (some (.ref la))) :: (L + 1, .cell (some (.int (ch : Int)))) :: σ) _
  -- return ''.join([letters[j] for j in range(3) if choice >> j & 1])
  refine ex_ret ?_
  refine ev_meth ?_ -- ''.join([letters[j] for j in range(3) if choice >> j & 1])
  refine ev_str ?_ -- ''
  refine mth_join ?_
  refine ⟨kpr_blt, ?_⟩
  refine evs_cons ?_
  refine ev_comp (cl := [("letters", L + 1 + 1), ("choice", L + 1)]) (names := [".0", "j"]) (nd := by decide +kernel) rfl (by decide +kernel) (by decide +kernel) rfl ?_
  refine ev_call ?_ -- range(3)
  refine ev_blt H.B rfl rfl (by decide) H.no_range boot_range ?_
  refine ⟨kpr_type, ?_⟩
  refine evs_cons ?_
  refine ev_int ?_ -- 3
  refine evs_nil ?_
  refine cal_range1 fun rr => ?_
  refine ⟨_, _, itb_range (n := 3) (by decide) (by decide), mem_st (.head _), fun L3 => ?_⟩
  rw [range3]
  refine ct_filterA (fun j : Nat => V.int (j : Int)) (bit ch) (fun j => V.str (one (ls.getD j 0))) (mem_st (.head _)) (sz (by simp)) (fun j hj p2 q2 => ?_) ?_
  · have hj3 : j < 3 := List.mem_range.mp hj
    refine asg_name (sto_loc (i := 1) rfl rfl ?_)
    refine et_plain ?_ -- choice >> j & 1
    refine ev_bin ?_
    refine ev_bin ?_
    refine ev_cell (Or.inl rfl) rfl rfl rfl (List.mem_of_getElem? (i := 2) rfl) ?_ -- choice
    refine ev_loc (i := 1) rfl rfl rfl rfl ?_ -- j
    refine bin_shr (by omega) ?_
    rw [shr_nat]
    refine ev_int ?_ -- 1
    refine bin_and ?_
    rw [band1]
    refine et_bit ?_
    refine ⟨rfl, .refl _, fun _ => ?_⟩
    refine ev_sub ?_
    refine ev_cell (Or.inl rfl) rfl rfl rfl (List.mem_of_getElem? (i := 1) rfl) ?_ -- letters
    refine ev_loc (i := 1) rfl rfl rfl rfl ?_ -- j
    refine sub_list (xs := sgV ls) (x := .str (one (ls.getD j 0))) (.tail _ (.tail _ (.tail _ hla))) (by omega) (by omega) (by simp [sgV]; omega) ?_ ⟨rfl, .refl _⟩
    rw [ix_nat, sgV, List.getElem?_map]
    have : ls[j]? = some (ls.getD j 0) := by rw [List.getD_eq_getElem?_getD, List.getElem?_eq_getElem (by omega)]; rfl
    rw [this]; rfl
  refine ⟨_, .refl _, fun sl => ?_⟩
  have e : (((List.range 3).filter (bit ch)).map fun j => V.str (one (ls.getD j 0))) = (((lettersL ch ls).map fun c => [c]).map tx).map V.str := by unfold lettersL; rw [List.map_map, List.map_map, List.map_map]; rfl
  rw [e]
  refine evs_nil ?_
  refine cal_join (mem_st (.head _)) ?_ ?_
  · refine join_ok0 1 (fun l hl => ?_) ?_
    · obtain ⟨R, hR, rfl⟩ := List.mem_map.mp hl
      exact Nat.le_refl _
    · have := lettersL_len ch ls
      rw [List.length_map]; omega
  rw [join_tx, flat_ones]
  exact ret_sub (.cons _ (.cons _ (.cons _ (.cons _ (.refl _))))) h

theorem over_ok (H : Hd S0 mg mb) : ∃ pm cd, FnOk S0 aOver (mkFd stOver "_law_over" pm cd .none .none) (bodyOf stOver) (locals (scopeOf stOver)) :=
  H.f_over.ok (fun _ _ => ⟨rfl, rfl, rfl, rfl, rfl, rfl, rfl⟩) rfl rfl rfl (by decide +kernel) (by decide +kernel) (by decide +kernel)
theorem over (H : Hd S0 mg mb) (hroom : c.A.depth + 2 < recursionLimit) {wd pt : List Nat} {g : Nat} (hw : wd.length ≤ 1000) (hp : pt.length ≤ 1000) (ow : ∀ x ∈ wd, Okc x) (op : ∀ x ∈ pt, Okc x) (h : K (.int (overC wd pt g)) σ) :
    Cal pw w S0 c m σ (.ref aOver) [.str (tx wd), .str (tx pt), .int g] [] K := by
  obtain ⟨pm, cd, FO⟩ := over_ok H
  refine cal_def H.B FO (by omega) (binds_pos (ns := ["word", "part", "great"]) rfl (fun vs hv => ?_) ⟨by rfl, fun L => ?_⟩)
  · obtain ⟨v, u, t, rfl⟩ := len3 hv
    rfl
  -- price = 2 * (len(word) - len(part)) + great
  refine ex_assign ?_
  refine ev_bin ?_
  refine ev_bin ?_
  refine ev_int ?_ -- 2
  refine ev_bin ?_
  refine ev_call ?_ -- len(word)
  refine ev_blt H.B rfl rfl (by decide) H.no_len boot_len ?_
  refine ⟨kpr_blt, ?_⟩
  refine evs_cons ?_
  refine ev_loc (i := 0) rfl rfl rfl rfl ?_ -- word
  refine evs_nil ?_
  refine cal_len_str (by rw [len_tx]; omega) ?_
  refine ev_call ?_ -- len(part)
  refine ev_blt H.B rfl rfl (by decide) H.no_len boot_len ?_
  refine ⟨kpr_blt, ?_⟩
  refine evs_cons ?_
  refine ev_loc (i := 1) rfl rfl rfl rfl ?_ -- part
  refine evs_nil ?_
  refine cal_len_str (by rw [len_tx]; omega) ?_
  rw [len_tx, len_tx]
  refine bin_sub ?_
  refine bin_mul (IntMulOk.of_left (by decide +kernel)) ?_
  refine ev_loc (i := 2) rfl rfl rfl rfl ?_ -- great
  refine bin_add ?_
  refine sto_loc (i := 3) rfl rfl ?_ -- price
  -- return _levenshtein_distance(part, word, price) - price if len(part) <= len(word) else 1
  refine ex_ret ?_
  refine ev_if ?_
  refine et_cmp ?_ -- len(part) <= len(word)
  refine ev_call ?_ -- len(part)
  refine ev_blt H.B rfl rfl (by decide) H.no_len boot_len ?_
  refine ⟨kpr_blt, ?_⟩
  refine evs_cons ?_
  refine ev_loc (i := 1) rfl rfl rfl rfl ?_ -- part
  refine evs_nil ?_
  refine cal_len_str (by rw [len_tx]; omega) ?_
  refine ev_call ?_ -- len(word)
  refine ev_blt H.B rfl rfl (by decide) H.no_len boot_len ?_
  refine ⟨kpr_blt, ?_⟩
  refine evs_cons ?_
  refine ev_loc (i := 0) rfl rfl rfl rfl ?_ -- word
  refine evs_nil ?_
  refine cal_len_str (by rw [len_tx]; omega) ?_
  rw [len_tx, len_tx]
  refine cmp_le ?_
  refine tru_bool ?_
  unfold overC at h
  refine ⟨fun ht => ?_, fun hf => ?_⟩
  · rw [if_pos (by simpa using ht)] at h
    refine ev_bin ?_
    refine ev_call ?_ -- _levenshtein_distance(part, word, price)
    refine ev_glob (V0 := .ref aLev) H.B rfl rfl H.g_levenshtein_distance rfl ?_
    refine ⟨H.f_lev.kpr, ?_⟩
    refine evs_cons ?_
    refine ev_loc (i := 1) rfl rfl rfl rfl ?_ -- part
    refine evs_cons ?_
    refine ev_loc (i := 0) rfl rfl rfl rfl ?_ -- word
    refine evs_cons ?_
    refine ev_loc (i := 3) rfl rfl rfl rfl ?_ -- price
    refine evs_nil ?_
    refine lev H (by show c.A.depth + 1 + 1 < _; omega) (by omega) (by omega) op ow ?_
    refine ev_loc (i := 3) rfl rfl rfl rfl ?_ -- price
    refine bin_sub ?_
    exact ret_sub (m' := []) (.refl _) h
  · rw [if_neg (by simpa using hf)] at h
    refine ev_int ?_ -- 1
    exact ret_sub (m' := []) (.refl _) h
end
end Mine
end

section
set_option maxRecDepth 100000
namespace Mine
def pc (kept great : Nat) : Nat := ((List.range 3).filter fun j => decide ((kept &&& great) &&& 2 ^ j ≠ 0)).length
def apStep (kept one two : Nat) (s : Int × Int × Int) (j : Nat) : Int × Int × Int :=
  if bit kept j = true then (s.1 + 2 * maxL [s.2.1, s.2.2], 0, 0) else (s.1, s.2.1 + (one / 2 ^ j % 2 : Nat), s.2.2 + (two / 2 ^ j % 2 : Nat))
def apSt (kept one two great n : Nat) : Int × Int × Int := (List.range n).foldl (apStep kept one two) ((pc kept great : Nat), 0, 0)
theorem apSt_succ (kept one two great n : Nat) : apSt kept one two great (n + 1) = apStep kept one two (apSt kept one two great n) n := by
  unfold apSt; rw [List.range_succ, List.foldl_append]; rfl
def apPrice (kept one two great : Nat) : Int := (apSt kept one two great 3).1 + 2 * maxL [(apSt kept one two great 3).2.1, (apSt kept one two great 3).2.2]
def apOk (one two kept : Nat) : Bool := ((kept &&& one) &&& two) == kept
def apPr (one two great n : Nat) : List Int := ((List.range n).filter (apOk one two)).map fun k => apPrice k one two great
theorem apPr_succ (one two great n : Nat) : apPr one two great (n + 1) = apPr one two great n ++ if apOk one two n = true then [apPrice n one two great] else [] := by
  unfold apPr
  rw [List.range_succ, List.filter_append, List.map_append]
  congr 1
  by_cases h : apOk one two n = true
  · rw [if_pos h, List.filter_cons, if_pos h]; rfl
  · rw [if_neg h, List.filter_cons, if_neg h]; rfl
theorem apPr_len (one two great n : Nat) : (apPr one two great n).length ≤ n := by
  unfold apPr
  rw [List.length_map]
  exact Nat.le_trans (List.length_filter_le _ _) (by simp)
theorem apPr_ne (one two great : Nat) : apPr one two great 8 ≠ [] := fun e => by
  have h : (0 : Nat) ∈ (List.range 8).filter (apOk one two) := List.mem_filter.mpr ⟨by simp, by simp [apOk]⟩
  have := List.mem_map_of_mem (f := fun k => apPrice k one two great) h
  unfold apPr at e
  rw [e] at this
  cases this
def apartC (one two great : Nat) : Int := minL (apPr one two great 8)
theorem fmod_lt (k b : Nat) : True := trivial
section
variable {w : World} {S0 : Shared} {c : Cx} {m : Ms} {σ : Sto} {K : V → Sto → Prop} {mg mb : Str → Option Value}
theorem apart_ok (H : Hd S0 mg mb) : ∃ pm cd, FnOk S0 aApart (mkFd stApart "_law_apart" pm cd .none .none) (bodyOf stApart) (locals (scopeOf stApart)) :=
  H.f_apart.ok (fun _ _ => ⟨rfl, rfl, rfl, rfl, rfl, rfl, rfl⟩) rfl rfl rfl (by decide +kernel) (by decide +kernel) (by decide +kernel)
theorem shl_nat (j : Nat) : (1 : Int) * 2 ^ ((j : Int)).toNat = ((2 ^ j : Nat) : Int) := by
  rw [Int.one_mul, Int.toNat_natCast, Int.natCast_pow]; rfl
theorem wk_cons {m0 m1 : Ms} {T0 T1 : Sto} (h : Wk m0 T0 m1 T1) (i : Nat) (x : V) : Wk ((i, x) :: m0) T0 ((i, x) :: m1) T1 := ⟨fun j v hv => by
  rw [List.lookup_cons] at hv ⊢
  split at hv
  · exact hv
  · exact h.ms j v hv, h.st⟩
theorem apart (H : Hd S0 mg mb) (hroom : c.A.depth < recursionLimit) {one two great : Nat} (h : K (.int (apartC one two great)) σ) :
    Cal pw w S0 c m σ (.ref aApart) [.int one, .int two, .int great] [] K := by
  obtain ⟨pm, cd, FO⟩ := apart_ok H
  refine cal_def H.B FO (by omega) (binds_pos (ns := ["one", "two", "great"]) rfl (fun vs hv => ?_) ⟨by rfl, fun L => ?_⟩)
  · obtain ⟨v, u, t, rfl⟩ := len3 hv
    rfl
  show Ex pw w S0 _ _ [(1, .int (two : Int)), (0, .int (one : Int))] ((L + 1 + 1, .cell .none) :: (L + 1, .cell (some (.int (great : Int)))) :: σ) _
  -- prices = []
  refine ex_assign ?_
  refine ev_list ?_
  refine evs_nil ?_
  refine ⟨sz (by simp), fun pl => ?_⟩
  refine sto_loc (i := 2) rfl rfl ?_ -- prices
  -- for kept in range(8):
  refine ex_for ?_
  refine ev_call ?_ -- range(8)
  refine ev_blt H.B rfl rfl (by decide) H.no_range boot_range ?_
  refine ⟨kpr_type, ?_⟩
  refine evs_cons ?_
  refine ev_int ?_ -- 8
  refine evs_nil ?_
  refine cal_range1 fun rr => ?_
  refine ⟨_, _, itb_range (a := 0) (b := 8) (c := 1) (n := 8) (by decide) (by decide), ?_⟩
  rw [range_nV]
  refine turns_gen (fun xs m0 T0 => ∃ (k : Nat) (kc : Option V), xs = (nV 8).drop k ∧ k ≤ 8 ∧ Wk m0 T0 [(0, .int (one : Int)), (1, .int (two : Int)), (2, .ref pl)]
      ((rr, .rng 0 8 1) :: (pl, .list (iV (apPr one two great k))) :: (L + 1 + 1, .cell kc) :: (L + 1, .cell (some (.int (great : Int)))) :: σ)) ?_ ?_ ?_ _ _ _ ?_
  · rintro xs m0 T0 ⟨k, kc, -, -, hw⟩
    exact mem_st (hw.st.subset (.head _))
  · rintro y xs m0 T0 ⟨k, kc, hx, hk, hw⟩ p
    obtain ⟨hlt8, rfl, hxs⟩ := nV_drop hx
    have hw := hw
    intro v hv
    refine Tr.weak (Wk.imp (c := _) hw) ?_
    revert v hv
    show Asg pw w S0 _ _ _ _ _ _
    refine asg_name (sto_cell rfl rfl (.tail (.tail .head)) ?_)
    -- if kept & one & two == kept:
    refine ex_if ?_
    refine et_cmp ?_ -- kept & one & two == kept
    refine ev_bin ?_
    refine ev_bin ?_
    refine ev_cell (Or.inl rfl) rfl rfl rfl (List.mem_of_getElem? (i := 2) rfl) ?_ -- kept
    refine ev_loc (i := 0) rfl rfl rfl rfl ?_ -- one
    refine bin_and ?_ -- kept & one
    rw [band_nat]
    refine ev_loc (i := 1) rfl rfl rfl rfl ?_ -- two
    refine bin_and ?_ -- kept & one & two
    rw [band_nat]
    refine ev_cell (Or.inl rfl) rfl rfl rfl (List.mem_of_getElem? (i := 2) rfl) ?_ -- kept
    refine cmp_eq ?_
    refine tru_bool ?_
    have hok : ((((k &&& one) &&& two : Nat) : Int) == (k : Int)) = apOk one two k := by
      unfold apOk; rw [Bool.eq_iff_iff, beq_iff_eq, beq_iff_eq]; omega
    rw [hok]
    refine ⟨fun ht => ?_, fun hf => ?_⟩
    · -- price = len([j for j in range(3) if kept & great & 1 << j])
      refine ex_assign ?_
      refine ev_call ?_ -- len([j for j in range(3) if kept & great & 1 << j])
      refine ev_blt H.B rfl rfl (by decide) H.no_len boot_len ?_
      refine ⟨kpr_blt, ?_⟩
      refine evs_cons ?_
      refine ev_comp (cl := [("kept", L + 1 + 1), ("great", L + 1)]) (names := [".0", "j"]) (nd := by decide +kernel) rfl (by decide +kernel) (by decide +kernel) rfl ?_
      refine ev_call ?_ -- range(3)
      refine ev_blt H.B rfl rfl (by decide) H.no_range boot_range ?_
      refine ⟨kpr_type, ?_⟩
      refine evs_cons ?_
      refine ev_int ?_ -- 3
      refine evs_nil ?_
      refine cal_range1 fun r3 => ?_
      refine ⟨_, _, itb_range (n := 3) (by decide) (by decide), mem_st (.head _), fun L3 => ?_⟩
      rw [range3]
      refine ct_filterA (fun j : Nat => V.int (j : Int)) (fun j => decide ((k &&& great) &&& 2 ^ j ≠ 0)) (fun j => V.int (j : Int)) (mem_st (.head _)) (sz (by simp)) (fun j hj p2 q2 => ?_) ?_
      · have hj3 : j < 3 := List.mem_range.mp hj
        refine asg_name (sto_loc (i := 1) rfl rfl ?_)
        refine et_plain ?_ -- kept & great & 1 << j
        refine ev_bin ?_
        refine ev_bin ?_
        refine ev_cell (Or.inl rfl) rfl rfl rfl (List.mem_of_getElem? (i := 3) rfl) ?_ -- kept
        refine ev_cell (Or.inl rfl) rfl rfl rfl (List.mem_of_getElem? (i := 4) rfl) ?_ -- great
        refine bin_and ?_ -- kept & great
        rw [band_nat]
        refine ev_bin ?_
        refine ev_int ?_ -- 1
        refine ev_loc (i := 1) rfl rfl rfl rfl ?_ -- j
        refine bin_shl (by omega) (by omega) (by decide) ?_
        rw [shl_nat]
        refine bin_and ?_ -- kept & great & 1 << j
        rw [band_nat]
        refine tru_int ?_
        refine ⟨?_, .refl _, fun _ => ?_⟩
        · rw [Bool.eq_iff_iff, decide_eq_true_eq, bne_iff_ne]; omega
        refine ev_loc (i := 1) rfl rfl rfl rfl ?_ -- j
        exact ⟨rfl, .refl _⟩
      refine ⟨_, .refl _, fun sl => ?_⟩
      refine evs_nil ?_
      refine cal_len_list (mem_st (.head _)) (by have := List.length_filter_le (fun j => decide ((k &&& great) &&& 2 ^ j ≠ 0)) (List.range 3); rw [List.length_map]; simp only [List.length_range] at this; omega) ?_
      rw [List.length_map, show ((List.range 3).filter fun j => decide ((k &&& great) &&& 2 ^ j ≠ 0)).length = pc k great from rfl]
      refine sto_loc (i := 4) rfl rfl ?_ -- price
      -- left = [0, 0]
      refine ex_assign ?_
      refine ev_list ?_
      refine evs_cons ?_
      refine ev_int ?_ -- 0
      refine evs_cons ?_
      refine ev_int ?_ -- 0
      refine evs_nil ?_
      refine ⟨sz (by simp), fun la => ?_⟩
      refine sto_loc (i := 5) rfl rfl ?_ -- left
      -- for j in range(3):
      refine ex_for ?_
      refine ev_call ?_ -- range(3)
      refine ev_blt H.B rfl rfl (by decide) H.no_range boot_range ?_
      refine ⟨kpr_type, ?_⟩
      refine evs_cons ?_
      refine ev_int ?_ -- 3
      refine evs_nil ?_
      refine cal_range1 fun r4 => ?_
      refine ⟨_, _, itb_range (a := 0) (b := 3) (c := 1) (n := 3) (by decide) (by decide), ?_⟩
      rw [range_nV]
      refine Turns.perm (mem_st (.head _)) (.swap _ _ _) ?_
      refine turns_gen (fun xs m0 T0 => ∃ (j : Nat) (la : Addr), xs = (nV 3).drop j ∧ j ≤ 3 ∧ Wk m0 T0 [(0, .int (one : Int)), (1, .int (two : Int)), (2, .ref pl), (4, .int (apSt k one two great j).1), (5, .ref la)]
          ((la, .list (iV [(apSt k one two great j).2.1, (apSt k one two great j).2.2])) :: (r4, .rng 0 3 1) :: (rr, .rng 0 8 1) :: (pl, .list (iV (apPr one two great k))) :: (L + 1 + 1, .cell (some (.int (k : Int)))) :: (L + 1, .cell (some (.int (great : Int)))) :: σ)) ?_ ?_ ?_ _ _ _ ?_
      · rintro xs m0 T0 ⟨j, la, -, -, hw⟩
        exact mem_st (hw.st.subset (.tail _ (.head _)))
      · rintro y xs m0 T0 ⟨j, la, hx, hj, hw⟩ p
        obtain ⟨hlt3, rfl, hxs'⟩ := nV_drop hx
        refine asg_name (sto_loc (i := 3) rfl rfl ?_)
        refine Ex.wk (wk_cons hw 3 _) ?_
        have hsucc := apSt_succ k one two great j
        unfold apStep at hsucc
        generalize apSt k one two great j = st at hsucc ⊢
        obtain ⟨s1, s2, s3⟩ := st
        -- if kept >> j & 1:
        refine ex_if ?_
        refine et_plain ?_ -- kept >> j & 1
        refine ev_bin ?_
        refine ev_bin ?_
        refine ev_cell (Or.inl rfl) rfl rfl rfl (List.mem_of_getElem? (i := 4) rfl) ?_ -- kept
        refine ev_loc (i := 3) rfl rfl rfl rfl ?_ -- j
        refine bin_shr (by omega) ?_
        rw [shr_nat]
        refine ev_int ?_ -- 1
        refine bin_and ?_ -- kept >> j & 1
        rw [band1]
        refine et_bit ?_
        refine ⟨fun hb => ?_, fun hb => ?_⟩
        · rw [if_pos hb] at hsucc
          -- price = price + 2 * max(left)
          refine ex_assign ?_
          refine ev_bin ?_
          refine ev_loc (i := 4) rfl rfl rfl rfl ?_ -- price
          refine ev_bin ?_
          refine ev_int ?_ -- 2
          refine ev_call ?_ -- max(left)
          refine ev_blt H.B rfl rfl (by decide) H.no_max boot_max ?_
          refine ⟨kpr_blt, ?_⟩
          refine evs_cons ?_
          refine ev_loc (i := 5) rfl rfl rfl rfl ?_ -- left
          refine evs_nil ?_
          refine cal_max_list (ns := [s2, s3]) (mem_st (.head _)) (by simp) ?_
          refine bin_mul (IntMulOk.of_left (by decide +kernel)) ?_
          refine bin_add ?_ -- price + 2 * max(left)
          refine sto_loc (i := 4) rfl rfl ?_ -- price
          -- left = [0, 0]
          refine ex_assign ?_
          refine ev_list ?_
          refine evs_cons ?_
          refine ev_int ?_ -- 0
          refine evs_cons ?_
          refine ev_int ?_ -- 0
          refine evs_nil ?_
          refine ⟨sz (by simp), fun la' => ?_⟩
          refine sto_loc (i := 5) rfl rfl ?_ -- left
          refine ex_nil (ex_nil ⟨_, _, Wk.rfl, j + 1, la', hxs', hlt3, ?_⟩)
          rw [hsucc]
          exact .of ⟨rfl, rfl, rfl, rfl, rfl, trivial⟩ (.cons_cons _ (.cons _ (.refl _)))
        · rw [if_neg (by rw [hb]; decide)] at hsucc
          -- left = [left[0] + (one >> j & 1), left[1] + (two >> j & 1)]
          refine ex_assign ?_
          refine ev_list ?_
          refine evs_cons ?_
          refine ev_bin ?_
          refine ev_sub ?_
          refine ev_loc (i := 5) rfl rfl rfl rfl ?_ -- left
          refine ev_int ?_ -- 0
          refine sub_list (xs := iV [s2, s3]) (x := .int s2) (.head _) (by show -((2 : Nat) : Int) ≤ _; decide) (by decide) (by show (2 : Nat) < _; decide) rfl ?_
          refine ev_bin ?_
          refine ev_bin ?_
          refine ev_loc (i := 0) rfl rfl rfl rfl ?_ -- one
          refine ev_loc (i := 3) rfl rfl rfl rfl ?_ -- j
          refine bin_shr (by omega) ?_
          rw [shr_nat]
          refine ev_int ?_ -- 1
          refine bin_and ?_ -- one >> j & 1
          rw [band1]
          refine bin_add ?_ -- left[0] + (one >> j & 1)
          refine evs_cons ?_
          refine ev_bin ?_
          refine ev_sub ?_
          refine ev_loc (i := 5) rfl rfl rfl rfl ?_ -- left
          refine ev_int ?_ -- 1
          refine sub_list (xs := iV [s2, s3]) (x := .int s3) (.head _) (by show -((2 : Nat) : Int) ≤ _; decide) (by decide) (by show (2 : Nat) < _; decide) rfl ?_
          refine ev_bin ?_
          refine ev_bin ?_
          refine ev_loc (i := 1) rfl rfl rfl rfl ?_ -- two
          refine ev_loc (i := 3) rfl rfl rfl rfl ?_ -- j
          refine bin_shr (by omega) ?_
          rw [shr_nat]
          refine ev_int ?_ -- 1
          refine bin_and ?_ -- two >> j & 1
          rw [band1]
          refine bin_add ?_ -- left[1] + (two >> j & 1)
          refine evs_nil ?_
          refine ⟨sz (by simp), fun la' => ?_⟩
          refine sto_loc (i := 5) rfl rfl ?_ -- left
          refine ex_nil (ex_nil ⟨_, _, Wk.rfl, j + 1, la', hxs', hlt3, ?_⟩)
          rw [hsucc]
          exact .of ⟨rfl, rfl, rfl, rfl, rfl, trivial⟩ (.cons_cons _ (.cons _ (.refl _)))
      · rintro m0 T0 ⟨j, la, hx, hj, hw⟩
        have : j = 3 := by have := nV_nil hx; omega
        subst this
        refine Ex.wk hw ?_
        -- prices.append(price + 2 * max(left))
        refine ex_expr ?_
        refine ev_meth ?_ -- prices.append(price + 2 * max(left))
        refine ev_loc (i := 2) rfl rfl rfl rfl ?_ -- prices
        refine mth_append (mem_st (List.mem_of_getElem? (i := 3) rfl)) ?_
        refine ⟨kpr_blt, ?_⟩
        refine evs_cons ?_
        refine ev_bin ?_
        refine ev_loc (i := 4) rfl rfl rfl rfl ?_ -- price
        refine ev_bin ?_
        refine ev_int ?_ -- 2
        refine ev_call ?_ -- max(left)
        refine ev_blt H.B rfl rfl (by decide) H.no_max boot_max ?_
        refine ⟨kpr_blt, ?_⟩
        refine evs_cons ?_
        refine ev_loc (i := 5) rfl rfl rfl rfl ?_ -- left
        refine evs_nil ?_
        refine cal_max_list (mem_st (.head _)) (by simp) ?_
        refine bin_mul (IntMulOk.of_left (by decide +kernel)) ?_
        refine bin_add ?_ -- price + 2 * max(left)
        refine evs_nil ?_
        refine cal_append (.tail (.tail (.tail .head))) (sz (by have := apPr_len one two great k; simp [iV]; omega)) ?_
        refine ex_nil (ex_nil ⟨_, _, Wk.rfl, k + 1, some (.int (k : Int)), hxs, hlt8, ?_⟩)
        rw [apPr_succ, if_pos ht]
        refine .of ⟨rfl, rfl, rfl, trivial⟩ (.cons _ (.cons _ ?_))
        rw [show iV (apPr one two great k ++ [apPrice k one two great]) = iV (apPr one two great k) ++ [V.int (apPrice k one two great)] by simp [iV]]
        exact .refl _
      · exact ⟨0, la, rfl, by decide, .of ⟨rfl, rfl, rfl, rfl, rfl, trivial⟩ (.cons_cons _ (.cons_cons _ (.cons _ (.cons _ (.refl _)))))⟩
    · refine ex_nil (ex_nil ⟨_, _, Wk.rfl, k + 1, some (.int (k : Int)), hxs, hlt8, ?_⟩)
      rw [apPr_succ, if_neg (by rw [hf]; decide), List.append_nil]
      exact .of ⟨rfl, rfl, rfl, trivial⟩ (.refl _)
  · rintro m0 T0 ⟨k, kc, hx, hk, hw⟩
    have : k = 8 := by have := nV_nil hx; omega
    subst this
    refine Ex.wk hw ?_
    -- return min(prices)
    refine ex_ret ?_
    refine ev_call ?_ -- min(prices)
    refine ev_blt H.B rfl rfl (by decide) H.no_min boot_min ?_
    refine ⟨kpr_blt, ?_⟩
    refine evs_cons ?_
    refine ev_loc (i := 2) rfl rfl rfl rfl ?_ -- prices
    refine evs_nil ?_
    refine cal_min_list (mem_st (.tail _ (.head _))) (apPr_ne _ _ _) ?_
    exact ret_sub (m' := []) (.cons _ (.cons _ (.cons _ (.cons _ (.refl _))))) h
  · exact ⟨0, .none, rfl, by decide, .of ⟨rfl, rfl, rfl, trivial⟩ (.refl _)⟩
end
end Mine
end

section
set_option maxRecDepth 100000
namespace Mine
def hasNm (nm : List Nat) (t : Row) : Bool := t.2.1.map lo1 == nm.map lo1
def gotV : Option (List Nat) → V
  | some v => .str (tx v)
  | .none => .none
def gotOne (tbl : List Row) (nm : List Nat) : Option (List Nat) := (tbl.find? (hasNm nm)).map fun t => t.2.2
section
variable {w : World} {S0 : Shared} {Kf : Frag} {c : Cx} {m : Ms} {σ : Sto} {K : V → Sto → Prop} {mg mb : Str → Option Value}
theorem get_ok (H : Hc S0 Kf mg mb) : ∃ pm cd, FnOk S0 aGet (mkFd (meth 8) "Headers.get" pm cd (.ref aGetD) .none) (bodyOf (meth 8)) (locals (scopeOf (meth 8))) :=
  H.f_get.ok (fun _ _ => ⟨rfl, rfl, rfl, rfl, rfl, rfl, rfl⟩) rfl rfl rfl (by decide +kernel) (by decide +kernel) (by decide +kernel)
theorem get (H : Hc S0 Kf mg mb) (hroom : c.A.depth + 1 < recursionLimit) {x d hl : Addr} {tbl : List Row} {nm : List Nat} (hn : Ltr nm) (hnl : nm.length ≤ 100000) (ht : ∀ t ∈ tbl, Ltr t.2.1 ∧ t.2.1.length ≤ 100000) (hs : tbl.length ≤ 1000000)
    (hT : ∀ p ∈ Tb x d hl tbl, p ∈ σ) (h : K (gotV (gotOne tbl nm)) σ) : Cal pw w S0 c m σ (.ref aGet) [.ref x, .str (tx nm)] [] K := by
  obtain ⟨pm, cd, FO⟩ := get_ok H
  obtain ⟨n, hD⟩ := H.d_get
  refine cal_def H.H.B FO (by omega) (binds_dflt (T := aGetD) hD rfl rfl fun vs ks hv hk => ?_)
  obtain ⟨v, u, rfl, hv1, hv2⟩ := hv.two
  cases ks with
  | cons => exact hk.elim
  | nil =>
  refine ⟨_, [("self", .ref x), ("name", .str (tx nm)), ("default", .none)], _, rfl, rfl, rfl, ⟨hv1, hv2, rfl, trivial⟩, by rfl, fun L => ?_⟩
  have hx : (x, O.inst aClass d) ∈ σ := hT _ (.head _)
  have hd : (d, O.idict "_headers" (.ref hl)) ∈ σ := hT _ (.tail _ (.head _))
  have hh : (hl, O.list (tbl.map fun t => V.ref t.1)) ∈ σ := hT _ (.tail _ (.tail _ (.head _)))
  have hr : ∀ t ∈ tbl, rowO t ∈ σ := fun t h => hT _ (.tail _ (.tail _ (.tail _ (List.mem_map_of_mem h))))
  -- name = self._convert_string_type(name.lower(), name=True)
  refine ex_assign ?_
  refine ev_meth_kw ?_ -- self._convert_string_type(name.lower(), name=True)
  refine ev_loc (i := 0) rfl rfl rfl rfl ?_ -- self
  refine mth_own (mem_st hx) (mem_st hd) H.ck H.c_conv H.t_conv (by decide) ?_
  refine ⟨H.f_conv.kpr, ?_⟩
  refine ev_meth ?_ -- name.lower()
  refine ev_loc (i := 1) rfl rfl rfl rfl ?_ -- name
  refine mth_lower ?_
  refine ⟨kpr_blt, ?_⟩
  refine evs_nil ?_
  refine cal_lower (by rw [len_tx]; omega) ?_
  rw [hn.lower]
  refine ev_bool ?_
  refine conv H (by show c.A.depth + 1 < _; exact hroom) hn.fine_lo (by simp; omega) ?_
  refine sto_loc (i := 1) rfl rfl ?_ -- name
  -- for k, v in self._headers:
  refine ex_for ?_
  refine ev_attr (Kf := Kf) ?_ -- self._headers
  refine ev_loc (i := 0) rfl rfl rfl rfl ?_ -- self
  refine ⟨x, aClass, d, hl, rfl, mem_st hx, mem_st hd, H.ck, H.c_hdr, ?_⟩
  refine ⟨_, _, itb_list (xs := tbl.map fun t => V.ref t.1), ?_⟩
  refine turns_gen (fun xs m0 T0 => ∃ k : Nat, xs = (tbl.drop k).map (fun t => V.ref t.1) ∧ (tbl.drop k).find? (hasNm nm) = tbl.find? (hasNm nm) ∧ Wk m0 T0 [(0, .ref x), (1, .str (tx (nm.map lo1))), (2, .none)] σ) ?_ ?_ ?_ _ _ _ ?_
  · rintro xs m0 T0 ⟨k, -, -, hw⟩
    exact mem_st (hw.st.subset hh)
  · rintro y xs m0 T0 ⟨k, hx', hf, hw⟩ p
    cases hdk : tbl.drop k with
    | nil => rw [hdk] at hx'; cases hx'
    | cons t ts =>
      rw [hdk] at hx' hf
      rw [List.map_cons, List.cons.injEq] at hx'
      obtain ⟨rfl, rfl⟩ := hx'
      have htm : t ∈ tbl := List.mem_of_mem_drop (i := k) (by rw [hdk]; exact .head _)
      obtain ⟨hl1, hl2⟩ := ht t htm
      refine asg_tuple (xs := [.str (tx t.2.1), .str (tx t.2.2)]) (mem_st (hw.st.subset (hr t htm))) rfl ?_
      refine asg_name (sto_loc (i := 3) rfl rfl ?_)
      refine asg_name (sto_loc (i := 4) rfl rfl ?_)
      show Ex pw w S0 _ _ _ _ _
      refine Ex.wk (wk_cons (wk_cons hw 3 _) 4 _) ?_
      -- if k.lower() == name:
      refine ex_if ?_
      refine et_cmp ?_ -- k.lower() == name
      refine ev_meth ?_ -- k.lower()
      refine ev_loc (i := 3) rfl rfl rfl rfl ?_ -- k
      refine mth_lower ?_
      refine ⟨kpr_blt, ?_⟩
      refine evs_nil ?_
      refine cal_lower (by rw [len_tx]; omega) ?_
      rw [hl1.lower]
      refine ev_loc (i := 1) rfl rfl rfl rfl ?_ -- name
      refine cmp_seq ?_
      refine tru_bool ?_
      rw [tx_beq, show (t.2.1.map lo1 == nm.map lo1) = hasNm nm t from rfl]
      rw [List.find?_cons] at hf
      refine ⟨fun hb => ?_, fun hb => ?_⟩
      · -- return v
        refine ex_ret ?_
        refine ev_loc (i := 4) rfl rfl rfl rfl ?_ -- v
        rw [hb] at hf
        rw [show gotOne tbl nm = some t.2.2 by unfold gotOne; rw [← hf]; rfl] at h
        exact ret_sub (m' := []) (.refl _) h
      · rw [hb] at hf
        refine ex_nil (ex_nil ⟨_, _, Wk.rfl, k + 1, ?_, ?_, ?_⟩)
        · rw [show tbl.drop (k + 1) = ts by rw [← List.drop_drop, hdk]; rfl]
        · rw [show tbl.drop (k + 1) = ts by rw [← List.drop_drop, hdk]; rfl]; exact hf
        · exact .of ⟨rfl, rfl, rfl, trivial⟩ (.refl _)
  · rintro m0 T0 ⟨k, hx', hf, hw⟩
    refine Ex.wk hw ?_
    -- return default
    refine ex_ret ?_
    refine ev_loc (i := 2) rfl rfl rfl rfl ?_ -- default
    have e : tbl.drop k = [] := List.map_eq_nil_iff.mp hx'.symm
    rw [e] at hf
    rw [show gotOne tbl nm = .none by unfold gotOne; rw [← hf]; rfl] at h
    exact ret_sub (m' := []) (.refl _) h
  · exact ⟨0, by simp, by simp, .of ⟨rfl, rfl, rfl, trivial⟩ (.refl _)⟩
end
end Mine
end

section
set_option maxRecDepth 100000
namespace Mine
theorem cutF {α : Type} (l : List α) (k : Nat) : cut l (some (k : Int)) .none = l.drop k := by
  unfold cut
  simp only [Option.elim_some, Option.elim_none]
  rw [clip_nat, List.take_of_length_le (by simp)]
  rcases Nat.le_total k l.length with h | h
  · rw [Nat.min_eq_left h]
  · rw [Nat.min_eq_right h, List.drop_eq_nil_of_le h, List.drop_length]
theorem cutT {α : Type} (l : List α) (k : Nat) : cut l .none (some (k : Int)) = l.take k := by
  unfold cut
  simp only [Option.elim_some, Option.elim_none, List.drop_zero, Nat.sub_zero]
  rw [clip_nat]
  rcases Nat.le_total k l.length with h | h
  · rw [Nat.min_eq_left h]
  · rw [Nat.min_eq_right h, List.take_length, List.take_of_length_le h]
theorem cutB {α : Type} (l : List α) (a b : Nat) (ha : a ≤ l.length) (hb : b ≤ l.length) : cut l (some (a : Int)) (some (b : Int)) = (l.drop a).take (b - a) := by
  unfold cut
  simp only [Option.elim_some, clip_nat]
  rw [Nat.min_eq_left ha, Nat.min_eq_left hb]

def nA (l : List Nat) : List V := l.map fun n : Nat => V.int (n : Int)
theorem nA_take (l : List Nat) (k : Nat) : (nA l).take k = nA (l.take k) := by simp [nA, List.map_take]
theorem nA_drop (l : List Nat) (k : Nat) : (nA l).drop k = nA (l.drop k) := by simp [nA, List.map_drop]
theorem nA_app (a b : List Nat) : nA a ++ nA b = nA (a ++ b) := by simp [nA]
theorem nA_len (l : List Nat) : (nA l).length = l.length := by simp [nA]
theorem nA_get (l : List Nat) (i : Nat) (n : Nat) (h : l[i]? = some n) : (nA l)[i]? = some (.int (n : Int)) := by simp [nA, h]

theorem bin_cat_tx {prog : Program} {w : World} {S0 : Shared} {c : Cx} {m : Ms} {σ : Sto} {K : V → Sto → Prop} {a b : List Nat} (h : a.length + b.length ≤ 1000000) (k : K (.str (tx (a ++ b))) σ) : Bin prog w S0 c m σ .Add (.str (tx a)) (.str (tx b)) K :=
  bin_cat (sz (by rw [len_tx, len_tx]; exact h)) (by rw [tx_app]; exact k)

theorem cast_sum (l : List Nat) : (l.map fun n : Nat => (n : Int)).sum = ((l.sum : Nat) : Int) := by
  induction l with
  | nil => rfl
  | cons a l ih => rw [List.map_cons, List.sum_cons, List.sum_cons, ih, Int.natCast_add]
theorem octT_ne (n : Nat) : octT n ≠ [] := by
  have key : ∀ l acc, acc ≠ [] → figsAcc l acc ≠ [] := by
    intro l
    induction l using Nat.strongRecOn with
    | ind l ih =>
      intro acc h
      unfold figsAcc
      split
      · exact h
      · exact ih (l / 64) (by omega) _ (by simp)
  unfold octT octL
  have := key (n / 64) [n % 64] (by simp)
  simpa using this
theorem octT_fine (n : Nat) : Fine (octT n) := fun c hc => by
  obtain ⟨f, hf, rfl⟩ := List.mem_map.mp hc
  unfold octC; split <;> omega
theorem octT_len (n : Nat) : (octT n).length ≤ 1 + n := by have := octL_len n; unfold octT; simpa using this
theorem Fine.app {a b : List Nat} (ha : Fine a) (hb : Fine b) : Fine (a ++ b) := fun c hc => (List.mem_append.mp hc).elim (ha c) (hb c)
theorem Fine.take {a : List Nat} (ha : Fine a) (k : Nat) : Fine (a.take k) := fun c hc => ha c (List.mem_of_mem_take hc)
theorem Fine.drop {a : List Nat} (ha : Fine a) (k : Nat) : Fine (a.drop k) := fun c hc => ha c (List.mem_of_mem_drop hc)
theorem unseen_fine (n : Int) : Fine [unseenC n] := fun c hc => by
  rw [List.mem_singleton] at hc
  subst hc
  have hp0 : 0 ≤ n % 27 := Int.emod_nonneg _ (by decide)
  have hp1 : n % 27 < 27 := Int.emod_lt_of_pos _ (by decide)
  have key : ∀ p : Fin 27, 32 ≤ (b1.getD p.1 0).toNat ∧ (b1.getD p.1 0).toNat ≠ 127 := by decide +kernel
  exact key ⟨(n % 27).toNat, by omega⟩
theorem perm_rot (A B C D : Sto) : (A ++ (B ++ (C ++ D))).Perm (B ++ (C ++ (A ++ D))) := by
  have e : B ++ (C ++ (A ++ D)) = ((B ++ C) ++ A) ++ D := by simp
  have e2 : A ++ (B ++ (C ++ D)) = (A ++ (B ++ C)) ++ D := by simp
  rw [e, e2]
  exact List.Perm.append_right _ List.perm_append_comm
theorem vd_figs (l : Nat) : ∀ (acc rest : List Nat), vd 0 ((figsAcc l acc).map octC ++ rest) = vd l (acc.map octC ++ rest) := by
  induction l using Nat.strongRecOn with
  | ind l ih =>
    intro acc rest
    unfold figsAcc
    split
    · rename_i h; subst h; rfl
    · rw [ih (l / 64) (by omega), List.map_cons, List.cons_append]
      have hb : octC (64 + l % 64) / 64 % 2 = 1 ∧ octC (64 + l % 64) % 64 = l % 64 := by
        unfold octC; split <;> omega
      rw [vd, if_pos hb.1, hb.2]
      congr 1; omega
theorem vd_oct (n : Nat) (rest : List Nat) : vd 0 (octT n ++ rest) = some (n, rest) := by
  unfold octT octL
  rw [vd_figs]
  have hb : octC (n % 64) / 64 % 2 ≠ 1 ∧ octC (n % 64) % 64 = n % 64 := by
    unfold octC; split <;> omega
  rw [List.map_cons, List.cons_append, vd, if_neg hb.1, hb.2]
  simp only [List.map_nil, List.nil_append]
  congr 2; omega
theorem octT_seen (n : Nat) : ∀ c ∈ octT n, b1.contains (c : Int) = false := fun c hc => by
  obtain ⟨f, hf, rfl⟩ := List.mem_map.mp hc
  have hlt : f < 128 := by
    have key : ∀ l acc, (∀ x ∈ acc, x < 128) → ∀ x ∈ figsAcc l acc, x < 128 := by
      intro l
      induction l using Nat.strongRecOn with
      | ind l ih =>
        intro acc h
        unfold figsAcc
        split
        · exact h
        · exact ih _ (by omega) _ fun x hx => by
            rcases List.mem_cons.mp hx with rfl | hx
            · omega
            · exact h x hx
    exact key _ _ (fun x hx => by obtain rfl := List.mem_singleton.mp hx; omega) f hf
  have key : ∀ f : Fin 128, b1.contains ((octC f.1 : Nat) : Int) = false := by decide +kernel
  exact key ⟨f, hlt⟩
theorem unseen_in (n : Int) : b1.contains ((unseenC n : Nat) : Int) = true := by
  have hp0 : 0 ≤ n % 27 := Int.emod_nonneg _ (by decide)
  have hp1 : n % 27 < 27 := Int.emod_lt_of_pos _ (by decide)
  have key : ∀ p : Fin 27, b1.contains (((b1.getD p.1 0).toNat : Nat) : Int) = true := by decide +kernel
  exact key ⟨(n % 27).toNat, by omega⟩
theorem drop_at {α : Type} {l : List α} {k : Nat} {x : α} {xs : List α} (h : x :: xs = l.drop k) : k < l.length ∧ l[k]? = some x ∧ xs = l.drop (k + 1) := by
  have hl : k < l.length := by
    have := congrArg List.length h
    rw [List.length_cons, List.length_drop] at this; omega
  rw [List.drop_eq_getElem_cons hl] at h
  injection h with h1 h2
  exact ⟨hl, by rw [List.getElem?_eq_getElem hl, h1], h2⟩
section
variable {prog : Program} {w : World} {S0 : Shared} {c : Cx}
/-- a comprehension that goes through a row of stores -/
theorem ct_seq {P : Sto → Prop} {t elt : Expr} {K : List V → Ms → Sto → Prop} (S : Nat → Sto) (g : Nat → V) (hP : ∀ i, P (c.st [] (S i))) :
    ∀ (xs ys : List V) (i : Nat), ys.length + xs.length ≤ sizeLine →
    (∀ j x, xs[j]? = some x → ∀ p q, Asg prog w S0 ((c.push q).push p) t x [] (S (i + j)) fun m1 τ1 => Ev prog w S0 ((c.push q).push p) elt m1 τ1 fun y τ3 => y = g (i + j) ∧ (S (i + j + 1)).Sublist τ3) →
    K (ys ++ (List.range' i xs.length).map g) [] (S (i + xs.length)) → CT prog w S0 c P t [] elt K xs ys [] (S i)
  | [], ys, i, hl, turn, fin => ⟨hP _, by simpa using fin⟩
  | x :: xs, ys, i, hl, turn, fin => by
    refine ⟨hP _, by simp at hl; omega, fun p q => Asg.mono (turn 0 x rfl p q) fun m1 τ1 h1 => ⟨fun _ => Ev.mono h1 fun y τ3 ⟨hy, hs⟩ => ?_, fun e => (nomatch e)⟩⟩
    subst hy
    refine ⟨[], S (i + 1), ⟨fun _ _ h => (nomatch h), hs⟩, ct_seq S g hP xs (ys ++ [g i]) (i + 1) (by simp at hl ⊢; omega) (fun j x' hx' p' q' => ?_) ?_⟩
    · have := turn (j + 1) x' hx' p' q'
      rw [show i + (j + 1) = i + 1 + j by omega] at this
      exact this
    · rw [List.length_cons, List.range'_succ, List.map_cons] at fin
      rw [List.append_assoc, show i + 1 + xs.length = i + (xs.length + 1) by omega]
      exact fin
end
section
variable {prog : Program} {w : World} {S0 : Shared} {c : Cx} {m : Ms} {σ : Sto} {K : V → Sto → Prop}
theorem Cal.perm {f : V} {xs : List V} {kws : List (Str × V)} {σ' : Sto} (h : σ.Perm σ') (k : Cal prog w S0 c m σ' f xs kws K) : Cal prog w S0 c m σ f xs kws K := fun fv vs ks a b d => Tr.weak (Imp.perm (.cons _ (.append_left _ h))) (k fv vs ks a b d)
theorem Cal.post {f : V} {xs : List V} {kws : List (Str × V)} (k : Cal prog w S0 c m σ f xs kws fun v σ' => ∃ σ'', σ'.Perm σ'' ∧ K v σ'') : Cal prog w S0 c m σ f xs kws K := fun fv vs ks a b d =>
  Tr.mono (k fv vs ks a b d) fun v τ ⟨V, σ', hz, hi, σ'', hp, hk⟩ => ⟨V, σ'', hz, hi.trans (Imp.perm (.cons _ (.append_left _ hp))), hk⟩
end
section
variable {w : World} {S0 : Shared} {Kf : Frag} {c : Cx} {m : Ms} {σ : Sto} {K : V → Sto → Prop} {mg mb : Str → Option Value}
/-- add_header, where the table does not lie first -/
theorem add_header' (H : Hc S0 Kf mg mb) (hroom : c.A.depth + 1 < recursionLimit) {A : Sto} {x d hl : Addr} {tbl : List Row} {nm vl : List Nat} (hn : Ltr nm) (hnl : nm.length ≤ 100000) (hv : Fine vl) (hvl : vl.length ≤ 1000000) (hs : tbl.length ≤ 1000000)
    (h : ∀ t, K .none (A ++ (Tb x d hl (tbl ++ [(t, nm, vl)]) ++ σ))) : Cal pw w S0 c m (A ++ (Tb x d hl tbl ++ σ)) (.ref aAdd) [.ref x, .str (tx nm), .str (tx vl)] [] K := by
  have sw : ∀ B : Sto, (A ++ (B ++ σ)).Perm (B ++ (A ++ σ)) := fun B => by
    rw [← List.append_assoc, ← List.append_assoc]; exact List.Perm.append_right _ List.perm_append_comm
  exact Cal.perm (sw _) (Cal.post (add_header H hroom hn hnl hv hvl hs fun t => ⟨_, (sw _).symm, h t⟩))
end
section
variable {w : World} {S0 : Shared} {Kf : Frag} {c : Cx} {m : Ms} {σ : Sto} {K : Fl → Ms → Sto → Prop} {mg mb : Str → Option Value}
/-- a slice of a list of the caller's -/
theorem ev_lslice_s {KV : V → Sto → Prop} {value : Expr} {lower upper : Option Expr} {p pos : Pos}
    (h : Ev pw w S0 c value m σ fun x σ1 => Pt pw w S0 c m σ1 lower fun lo σ2 => Pt pw w S0 c m σ2 upper fun hi σ3 =>
      ∃ a xs vs, x = .ref a ∧ S0.heap.IsList a (List.toArray vs) ∧ RzL xs vs ∧ xs.length ≤ sizeLine ∧ ∀ d, KV (.ref d) ((d, .list (cut xs lo hi)) :: σ3)) : Ev pw w S0 c (.Subscript value (.Slice lower upper .none p) pos) m σ KV :=
  Op.of fun s R Q E k => by
    rw [eval_Subscript]
    refine wpAny_bind (Op.get h s R _ E fun v x σ1 s1 R1 hx h1 => wpAny_bind (wpAny_holding (wpAny_Slice (h1.get s1 R1 _ E fun vl lo σ2 s2 R2 hlo h2 => h2.get s2 R2 _ E fun vu hi σ3 s3 R3 hhi h3 => wpAny_pure (wpAny_bind (wpAny_standAt ?_))))))
    obtain ⟨a, xs, vs, rfl, ⟨ol, g1, g2⟩, hz, hsz, h4⟩ := h3
    obtain rfl : v = .ref a := hx
    have hl : s3.heap.IsList a vs.toArray := ⟨ol, R3.keep _ _ g1, g2⟩
    show wpAny _ _ (subscriptTail value (.Slice lower upper .none p) (.ref a) (.ref s3.heap.objs.size)) _ _ _
    refine tail_any (hl.push _).typeIs slot_list_getitem.lookup (wpAny_getItem_list_slice (hl.push _) (Heap.IsSliceOf.new ..) hlo hhi .none (by simp) ?_ ?_) (by with_unfolding_all rfl)
    · rw [slice_pick]
      have G := (R3.grow (h' := s3.heap.push { cls := .type "slice", data := .fields #[vl, vu, .none] }) (fun b o e => Heap.get?_push_of_some _ e) s3.toks)
      exact k _ (.ref _) _ _ (Rel.new G (x := .list (cut xs lo hi)) ⟨_, 0, rfl, hz.cut lo hi⟩ rfl s3.toks) rfl (h4 _)
    · rw [List.size_toArray, ← hz.length]; exact hsz

variable {pm cd : Value} {L : Addr}
abbrev lawC (c : Cx) (m : Ms) (L : Addr) {pm cd : Value} (FO : FnOk S0 aLaw (mkFd stLaw "law" pm cd .none .none) (bodyOf stLaw) (locals (scopeOf stLaw))) : Cx :=
  { c.into m (mkFd stLaw "law" pm cd .none .none) aLaw L (locals (scopeOf stLaw)) FO.kind FO.glob FO.blt FO.nd with F := [] }
def lawB (k : Nat) : List Stmt := (bodyOf stLaw).drop k

end
end Mine
end

section
set_option maxRecDepth 100000
namespace Mine
def start03 : List Nat := [45, 173]
def draws03 (few : List Int) : List Nat := (few.take 4).map (fun x => (x % 300000).toNat) ++ start03.drop (few.take 4).length
theorem draws_len (few : List Int) : 2 ≤ (draws03 few).length ∧ (draws03 few).length ≤ 4 := by
  have : (few.take 4).length ≤ 4 := by simp; omega
  unfold draws03
  rw [List.length_append, List.length_map, List.length_drop]
  show 2 ≤ _ + (2 - _) ∧ _ + (2 - _) ≤ 4
  omega
theorem draws_lt (few : List Int) : ∀ n ∈ draws03 few, n < 300000 := fun n hn => by
  rcases List.mem_append.mp hn with h | h
  · obtain ⟨x, _, rfl⟩ := List.mem_map.mp h
    have := Int.emod_lt_of_pos x (show (0 : Int) < 300000 by decide)
    omega
  · have : n ∈ start03 := List.mem_of_mem_drop h
    have key : ∀ n ∈ start03, n < 300000 := by decide
    exact key n this
def smL (T : Int) : List Nat := [97 + (T % 24).toNat, 98 + (T % 24).toNat, 99 + (T % 24).toNat]
def laL (T : Int) : List Nat := [65 + (T % 24).toNat, 66 + (T % 24).toNat, 67 + (T % 24).toNat]
theorem chr_row (T a b e : Int) (ha : 0 ≤ a) (hb : 0 ≤ b) (he : 0 ≤ e) : [V.str (one (a + T % 24).toNat), V.str (one (b + T % 24).toNat), V.str (one (e + T % 24).toNat)] = sgV [a.toNat + (T % 24).toNat, b.toNat + (T % 24).toNat, e.toNat + (T % 24).toNat] := by
  have ht0 : 0 ≤ T % 24 := Int.emod_nonneg _ (by decide)
  rw [Int.toNat_add ha ht0, Int.toNat_add hb ht0, Int.toNat_add he ht0]; rfl
section
variable {w : World} {S0 : Shared} {Kf : Frag} {c : Cx} {m : Ms} {σ : Sto} {K : Fl → Ms → Sto → Prop} {mg mb : Str → Option Value}
/-- the cells: total, large, octets, sets, mixed, parts, greats, word, choice -/
def c9 (L : Addr) (tot lar oct set mix par gre wor cho : Option V) : Sto :=
  [(L + 1 + 1 + 1 + 1 + 1 + 1 + 1 + 1 + 1, .cell cho), (L + 1 + 1 + 1 + 1 + 1 + 1 + 1 + 1, .cell wor), (L + 1 + 1 + 1 + 1 + 1 + 1 + 1, .cell gre), (L + 1 + 1 + 1 + 1 + 1 + 1, .cell par), (L + 1 + 1 + 1 + 1 + 1, .cell mix), (L + 1 + 1 + 1 + 1, .cell set), (L + 1 + 1 + 1, .cell oct), (L + 1 + 1, .cell lar), (L + 1, .cell tot)]
variable {pm cd : Value} {L : Addr} (FO : FnOk S0 aLaw (mkFd stLaw "law" pm cd .none .none) (bodyOf stLaw) (locals (scopeOf stLaw)))
theorem lawA (H : Hc S0 Kf mg mb) {sa : Addr} {ns : List Int} {vs : List Value} (hsa : S0.heap.IsList sa vs.toArray) (hz : RzL (ns.map V.int) vs) (hns : ns.length ≤ 63)
    (h : ∀ sm la da, Ex pw w S0 (lawC c m L FO) (lawB 5) [(2, .ref sm), (3, .ref da)] ((da, .list (nA (draws03 (ns.take 63)))) :: (la, .list (sgV (laL (ns.take 63).sum))) :: (sm, .list (sgV (smL (ns.take 63).sum))) :: (c9 L (some (.int (ns.take 63).sum)) (some (.ref la)) .none .none .none .none .none .none .none ++ σ)) K) :
    Ex pw w S0 (lawC c m L FO) (lawB 0) [(0, .ref sa)] (c9 L .none .none .none .none .none .none .none .none .none ++ σ) K := by
  -- few = script[:63]
  refine ex_assign ?_
  refine ev_lslice_s ?_
  refine ev_loc (i := 0) rfl rfl rfl rfl ?_ -- script
  refine pt_none ?_
  refine pt_some ?_
  refine ev_int ?_ -- 63
  refine .inl ⟨_, rfl, ?_⟩
  refine ⟨_, _, _, rfl, hsa, hz, sz (by simp; omega), fun fa => ?_⟩
  rw [show cut (ns.map V.int) .none (some 63) = (ns.take 63).map V.int by rw [show (63 : Int) = ((63 : Nat) : Int) from rfl, cutT, List.map_take]]
  generalize hF : ns.take 63 = F at h ⊢
  have hFl : F.length ≤ 63 := by rw [← hF]; simp; omega
  refine sto_loc (i := 1) rfl rfl ?_ -- few
  -- total = sum(few)
  refine ex_assign ?_
  refine ev_call ?_ -- sum(few)
  refine ev_blt H.H.B rfl rfl (by decide) H.H.no_sum boot_sum ?_
  refine ⟨kpr_blt, ?_⟩
  refine evs_cons ?_
  refine ev_loc (i := 1) rfl rfl rfl rfl ?_ -- few
  refine evs_nil ?_
  refine cal_sum (mem_st (.head _)) ?_
  generalize F.sum = T at h ⊢
  refine sto_cell rfl rfl (.tail (.tail (.tail (.tail (.tail (.tail (.tail (.tail (.tail .head))))))))) ?_ -- total
  have ht0 : 0 ≤ T % 24 := Int.emod_nonneg _ (by decide)
  have ht1 : T % 24 < 24 := Int.emod_lt_of_pos _ (by decide)
  have hfm : T.fmod 24 = T % 24 := Int.fmod_eq_emod_of_nonneg _ (by decide)
  -- small = [chr(97 + total % 24), chr(98 + total % 24), chr(99 + total % 24)]
  refine ex_assign ?_
  refine ev_list ?_
  iterate 3 (
    refine evs_cons ?_
    refine ev_call ?_ -- chr(97 + total % 24)
    refine ev_blt H.H.B rfl rfl (by decide) H.H.no_chr boot_chr ?_
    refine ⟨kpr_blt, ?_⟩
    refine evs_cons ?_
    refine ev_bin ?_
    refine ev_int ?_ -- 97
    refine ev_bin ?_
    refine ev_cell (Or.inl rfl) rfl rfl rfl (List.mem_of_getElem? (i := 9) rfl) ?_ -- total
    refine ev_int ?_ -- 24
    refine bin_mod (by decide) ?_
    rw [hfm]
    refine bin_add ?_ -- 97 + total % 24
    refine evs_nil ?_
    refine cal_chr (by omega) (by omega) ?_)
  refine evs_nil ?_
  refine ⟨sz (by simp), fun sm => ?_⟩
  rw [chr_row T 97 98 99 (by decide) (by decide) (by decide), show [(97 : Int).toNat + (T % 24).toNat, (98 : Int).toNat + (T % 24).toNat, (99 : Int).toNat + (T % 24).toNat] = smL T from rfl]
  refine sto_loc (i := 2) rfl rfl ?_ -- small
  -- large = [chr(65 + total % 24), chr(66 + total % 24), chr(67 + total % 24)]
  refine ex_assign ?_
  refine ev_list ?_
  iterate 3 (
    refine evs_cons ?_
    refine ev_call ?_ -- chr(65 + total % 24)
    refine ev_blt H.H.B rfl rfl (by decide) H.H.no_chr boot_chr ?_
    refine ⟨kpr_blt, ?_⟩
    refine evs_cons ?_
    refine ev_bin ?_
    refine ev_int ?_ -- 65
    refine ev_bin ?_
    refine ev_cell (Or.inl rfl) rfl rfl rfl (List.mem_of_getElem? (i := 10) rfl) ?_ -- total
    refine ev_int ?_ -- 24
    refine bin_mod (by decide) ?_
    rw [hfm]
    refine bin_add ?_ -- 65 + total % 24
    refine evs_nil ?_
    refine cal_chr (by omega) (by omega) ?_)
  refine evs_nil ?_
  refine ⟨sz (by simp), fun la => ?_⟩
  rw [chr_row T 65 66 67 (by decide) (by decide) (by decide), show [(65 : Int).toNat + (T % 24).toNat, (66 : Int).toNat + (T % 24).toNat, (67 : Int).toNat + (T % 24).toNat] = laL T from rfl]
  refine sto_cell rfl rfl (.tail (.tail (.tail (.tail (.tail (.tail (.tail (.tail (.tail (.tail .head)))))))))) ?_ -- large
  -- draws = [x % 300000 for x in few[:4]] + [45, 173][len(few[:4]):]
  refine ex_assign ?_
  refine ev_bin ?_
  refine ev_comp (cl := []) (names := [".0", "x"]) (nd := by decide +kernel) rfl (by decide +kernel) (by decide +kernel) rfl ?_
  refine ev_lslice ?_
  refine ev_loc (i := 1) rfl rfl rfl rfl ?_ -- few
  refine pt_none ?_
  refine pt_some ?_
  refine ev_int ?_ -- 4
  refine .inl ⟨_, rfl, ?_⟩
  refine ⟨fa, F.map V.int, rfl, List.mem_of_getElem? (i := 2) rfl, sz (by simp; omega), fun f1 => ?_⟩
  rw [show cut (F.map V.int) .none (some 4) = (F.take 4).map V.int by rw [show (4 : Int) = ((4 : Nat) : Int) from rfl, cutT, List.map_take]]
  refine ⟨_, _, itb_list, mem_st (.head _), fun L2 => ?_⟩
  refine ct_mapA V.int (fun x => V.int ((x % 300000).toNat : Int)) (mem_st (.head _)) (sz (by simp; omega)) (fun x hx p q => ?_) ?_
  · refine asg_name (sto_loc (i := 1) rfl rfl ?_)
    refine ev_bin ?_
    refine ev_loc (i := 1) rfl rfl rfl rfl ?_ -- x
    refine ev_int ?_ -- 300000
    refine bin_mod (by decide) ?_
    refine ⟨?_, .refl _⟩
    rw [Int.fmod_eq_emod_of_nonneg _ (by decide), Int.toNat_of_nonneg (Int.emod_nonneg _ (by decide))]
  refine ⟨_, .refl _, fun d1 => ?_⟩
  rw [show ((F.take 4).map fun x => V.int ((x % 300000).toNat : Int)) = nA ((F.take 4).map fun x => (x % 300000).toNat) by unfold nA; rw [List.map_map]; rfl]
  refine ev_lslice ?_
  refine ev_list ?_
  refine evs_cons ?_
  refine ev_int ?_ -- 45
  refine evs_cons ?_
  refine ev_int ?_ -- 173
  refine evs_nil ?_
  refine ⟨sz (by simp), fun st => ?_⟩
  refine pt_some ?_
  refine ev_call ?_ -- len(few[:4])
  refine ev_blt H.H.B rfl rfl (by decide) H.H.no_len boot_len ?_
  refine ⟨kpr_blt, ?_⟩
  refine evs_cons ?_
  refine ev_lslice ?_
  refine ev_loc (i := 1) rfl rfl rfl rfl ?_ -- few
  refine pt_none ?_
  refine pt_some ?_
  refine ev_int ?_ -- 4
  refine .inl ⟨_, rfl, ?_⟩
  refine ⟨fa, F.map V.int, rfl, List.mem_of_getElem? (i := 5) rfl, sz (by simp; omega), fun f2 => ?_⟩
  rw [show cut (F.map V.int) .none (some 4) = (F.take 4).map V.int by rw [show (4 : Int) = ((4 : Nat) : Int) from rfl, cutT, List.map_take]]
  refine evs_nil ?_
  refine cal_len_list (mem_st (.head _)) (by simp; omega) ?_
  refine .inl ⟨_, rfl, ?_⟩
  refine pt_none ?_
  refine ⟨st, nA start03, rfl, .tail _ (.head _), sz (by simp [nA, start03]), fun d2 => ?_⟩
  rw [cutF, List.length_map, nA_drop]
  refine bin_lcat (.tail _ (.tail _ (.tail _ (.head _)))) (.head _) (sz (by simp [nA, start03]; omega)) fun da => ?_
  rw [nA_app, show (F.take 4).map (fun x => (x % 300000).toNat) ++ start03.drop (F.take 4).length = draws03 F from rfl]
  refine sto_loc (i := 3) rfl rfl ?_ -- draws
  refine Ex.wk (m' := [(2, .ref sm), (3, .ref da)]) (.of ⟨rfl, rfl, trivial⟩ ?_) (h sm la da)
  refine .cons_cons _ (.cons _ (.cons _ (.cons _ (.cons _ (.cons _ (.cons_cons _ (.cons_cons _ ?_)))))))
  repeat (first | exact .refl _ | refine .cons_cons _ ?_ | refine .cons _ ?_)
end
end Mine
end

section
set_option maxRecDepth 100000
namespace Mine
theorem figsAcc_log : ∀ (k l : Nat) (acc : List Nat), l < 64 ^ k → (figsAcc l acc).length ≤ acc.length + k
  | 0, l, acc, h => by
    have : l = 0 := by simpa using h
    subst this
    unfold figsAcc; simp
  | k + 1, l, acc, h => by
    unfold figsAcc
    split
    · omega
    · have h' : l < 64 ^ k * 64 := h
      have := figsAcc_log k (l / 64) ((64 + l % 64) :: acc) (by omega)
      simp at this; omega
theorem octT_len5 {n : Nat} (h : n < 1000000) : (octT n).length ≤ 5 := by
  unfold octT octL
  rw [List.length_map]
  have := figsAcc_log 4 (n / 64) [n % 64] (by have e : (64 : Nat) ^ 4 = 16777216 := by decide
                                              omega)
  simpa using this
def tapeL (T : Int) (D : List Nat) : List Nat := (D.map fun n : Nat => [unseenC (T + n)] ++ octT n).flatten
def flatD (D : List Nat) : List Nat := (D.map octT).flatten
def posD (D : List Nat) (i : Nat) : Nat := (flatD (D.take i)).length
theorem flat_len (f : Nat → List Nat) (b : Nat) : ∀ D : List Nat, (∀ n ∈ D, (f n).length ≤ b) → (D.map f).flatten.length ≤ D.length * b
  | [], _ => by simp
  | n :: D, h => by
    have h1 := h n (.head _)
    have h2 := flat_len f b D fun m hm => h m (.tail _ hm)
    rw [List.map_cons, List.flatten_cons, List.length_append, List.length_cons, Nat.add_mul]; omega
theorem tape_fine (T : Int) (D : List Nat) : Fine (tapeL T D) := fun c hc => by
  obtain ⟨l, hl, hc⟩ := List.mem_flatten.mp hc
  obtain ⟨n, _, rfl⟩ := List.mem_map.mp hl
  exact ((unseen_fine _).app (octT_fine _)) c hc
theorem tape_seen (T : Int) : ∀ D : List Nat, (tapeL T D).filter (fun c : Nat => !b1.contains (c : Int)) = flatD D
  | [] => rfl
  | n :: D => by
    have ih := tape_seen T D
    unfold tapeL flatD at ih ⊢
    rw [List.map_cons, List.flatten_cons, List.filter_append, ih, List.map_cons, List.flatten_cons, List.filter_append, List.filter_cons_of_neg (by rw [unseen_in]; decide), List.filter_nil, List.nil_append,
      List.filter_eq_self.mpr (fun c hc => by rw [octT_seen n c hc]; rfl)]
theorem flatD_app (A B : List Nat) : flatD (A ++ B) = flatD A ++ flatD B := by simp [flatD]
theorem vd_pos (D : List Nat) (i : Nat) (n : Nat) (h : D[i]? = some n) : vd 0 ((flatD D).drop (posD D i)) = some (n, (flatD D).drop (posD D (i + 1))) := by
  obtain ⟨hlt, e⟩ := List.getElem?_eq_some_iff.mp h
  have e1 : D = D.take i ++ n :: D.drop (i + 1) := by
    rw [← e, ← List.drop_eq_getElem_cons hlt, List.take_append_drop]
  have e2 : D.take (i + 1) = D.take i ++ [n] := by rw [List.take_add_one, h]; rfl
  have e3 : flatD D = flatD (D.take i) ++ (octT n ++ flatD (D.drop (i + 1))) := by
    have := congrArg flatD e1
    rw [flatD_app] at this; exact this
  have e4 : flatD D = flatD (D.take (i + 1)) ++ flatD (D.drop (i + 1)) := by rw [← flatD_app, List.take_append_drop]
  unfold posD
  have d1 : (flatD D).drop (flatD (D.take i)).length = octT n ++ flatD (D.drop (i + 1)) := by rw [e3, List.drop_left]
  have d2 : (flatD D).drop (flatD (D.take (i + 1))).length = flatD (D.drop (i + 1)) := by
    generalize hA : flatD (D.take (i + 1)) = A at e4 ⊢
    rw [e4, List.drop_left]
  rw [d1, d2, vd_oct]
theorem posD_le (D : List Nat) (i : Nat) : posD D i ≤ (flatD D).length := by
  have := congrArg List.length (flatD_app (D.take i) (D.drop i))
  rw [List.take_append_drop, List.length_append] at this
  unfold posD; omega
def setsN : List Nat := [83, 101, 116, 115]
def sETSN : List Nat := [115, 69, 84, 83]
theorem sets_tx : (PySem.Str.ofString "Sets") = tx setsN := by decide +kernel
theorem sETS_tx : (PySem.Str.ofString "sETS") = tx sETSN := by decide +kernel
theorem setsN_ltr : Ltr setsN := by unfold Ltr; decide
theorem sETSN_ltr : Ltr sETSN := by unfold Ltr; decide
theorem nA_iV (D : List Nat) : nA D = (D.map fun n : Nat => (n : Int)).map V.int := by unfold nA; rw [List.map_map]; rfl
section
variable {w : World} {S0 : Shared} {Kf : Frag} {c : Cx} {m : Ms} {σ : Sto} {K : Fl → Ms → Sto → Prop} {mg mb : Str → Option Value}
variable {pm cd : Value} {L : Addr} (FO : FnOk S0 aLaw (mkFd stLaw "law" pm cd .none .none) (bodyOf stLaw) (locals (scopeOf stLaw)))
theorem lawBB (H : Hc S0 Kf mg mb) (hroom : c.A.depth + 2 < recursionLimit) (hu : (lawC c m L FO).A.units < cLine) {T : Int} {D : List Nat} {sm la da : Addr} {lar set mix par gre wor cho : Option V} (hD : D.length ≤ 4) (hlt : ∀ n ∈ D, n < 300000) (τ : Sto)
    (h : ∀ x d hl tp rd oct, Ex pw w S0 (lawC c m L FO) (lawB 11) [(2, .ref sm), (5, .ref x), (6, .ref rd)] ((rd, .list (nA D)) :: (Tb x d hl [(tp, setsN, tapeL T D)] ++ (τ ++ (c9 L (some (.int T)) lar oct set mix par gre wor cho ++ σ)))) K) :
    Ex pw w S0 (lawC c m L FO) (lawB 5) [(2, .ref sm), (3, .ref da)] ((da, .list (nA D)) :: (τ ++ (c9 L (some (.int T)) lar .none set mix par gre wor cho ++ σ))) K := by
  have htl : (tapeL T D).length ≤ 24 := by
    have := flat_len (fun n : Nat => [unseenC (T + n)] ++ octT n) 6 D fun n hn => by have := octT_len5 (show n < 1000000 by have := hlt n hn; omega); simp; omega
    unfold tapeL; omega
  -- tape = ''.join([_law_unseen(total + x) + _law_octets(x) for x in draws])
  refine ex_assign ?_
  refine ev_meth ?_
  refine ev_str ?_ -- ''
  refine mth_join ?_
  refine ⟨kpr_blt, ?_⟩
  refine evs_cons ?_
  refine ev_comp (cl := [("total", L + 1)]) (names := [".0", "x"]) (nd := by decide +kernel) rfl (by decide +kernel) (by decide +kernel) rfl ?_
  refine ev_loc (i := 3) rfl rfl rfl rfl ?_ -- draws
  refine ⟨_, _, itb_list, mem_st (.head _), fun L2 => ?_⟩
  refine ct_mapA (fun n : Nat => V.int (n : Int)) (fun n : Nat => V.str (tx ([unseenC (T + n)] ++ octT n))) (mem_st (.head _)) (sz (by omega)) (fun n hn p q => ?_) ?_
  · have hb := hlt n hn
    refine asg_name (sto_loc (i := 1) rfl rfl ?_)
    refine ev_bin ?_
    refine ev_call ?_ -- _law_unseen(total + x)
    refine ev_glob (V0 := .ref aUnseen) H.H.B rfl rfl H.H.g_law_unseen rfl ?_
    refine ⟨H.H.f_unseen.kpr, ?_⟩
    refine evs_cons ?_
    refine ev_bin ?_
    refine ev_cell (Or.inl rfl) rfl rfl rfl (.tail _ (List.mem_append_right _ (List.mem_append_left _ (List.mem_of_getElem? (i := 8) rfl)))) ?_ -- total
    refine ev_loc (i := 1) rfl rfl rfl rfl ?_ -- x
    refine bin_add ?_ -- total + x
    refine evs_nil ?_
    refine unseen H.H (by show c.A.depth + 1 < _; omega) ?_
    rw [one_tx]
    refine ev_call ?_ -- _law_octets(x)
    refine ev_glob (V0 := .ref aOctets) H.H.B rfl rfl H.H.g_law_octets rfl ?_
    refine ⟨H.H.f_octets.kpr, ?_⟩
    refine evs_cons ?_
    refine ev_loc (i := 1) rfl rfl rfl rfl ?_ -- x
    refine evs_nil ?_
    refine octets H.H (by show c.A.depth + 1 < _; omega) (by omega) ?_
    have := octT_len5 (show n < 1000000 by omega)
    refine bin_cat_tx (by simp; omega) ?_
    exact ⟨rfl, .refl _⟩
  refine ⟨_, .refl _, fun tl => ?_⟩
  rw [show (D.map fun n : Nat => V.str (tx ([unseenC (T + n)] ++ octT n))) = ((D.map fun n : Nat => [unseenC (T + n)] ++ octT n).map tx).map V.str by rw [List.map_map, List.map_map]; rfl]
  refine evs_nil ?_
  refine cal_join (mem_st (.head _)) ?_ ?_
  · refine join_ok0 6 (fun l hl => ?_) (by rw [List.length_map]; omega)
    obtain ⟨n, hn, rfl⟩ := List.mem_map.mp hl
    have := octT_len5 (show n < 1000000 by have := hlt n hn; omega)
    simp; omega
  rw [join_tx, show (D.map fun n : Nat => [unseenC (T + n)] ++ octT n).flatten = tapeL T D from rfl]
  refine sto_loc (i := 4) rfl rfl ?_ -- tape
  -- table = Headers()
  refine ex_assign ?_
  refine ev_call ?_ -- Headers()
  refine ev_glob (V0 := .ref aClass) H.H.B rfl rfl H.g_Headers rfl ?_
  refine ⟨kpr_cls H.ck, ?_⟩
  refine evs_nil ?_
  refine mk_headers H (by show c.A.depth + 1 + 1 < _; omega) fun x d hl => ?_
  refine sto_loc (i := 5) rfl rfl ?_ -- table
  -- table.add_header('Sets', tape)
  refine ex_expr ?_
  refine ev_meth ?_
  refine ev_loc (i := 5) rfl rfl rfl rfl ?_ -- table
  refine mth_own (x := x) (mem_st (.head _)) (mem_st (.tail _ (.head _))) H.ck H.c_add H.t_add (by decide) ?_
  refine ⟨H.f_add.kpr, ?_⟩
  refine evs_cons ?_
  refine ev_str ?_ -- 'Sets'
  rw [sets_tx]
  refine evs_cons ?_
  refine ev_loc (i := 4) rfl rfl rfl rfl ?_ -- tape
  refine evs_nil ?_
  refine add_header (x := x) (d := d) (hl := hl) (tbl := []) H (by show c.A.depth + 1 + 1 < _; omega) setsN_ltr (by decide) (tape_fine _ _) (by omega) (by decide) fun tp => ?_
  rw [List.nil_append]
  -- octets = iter([ord(sign) for sign in table.get('sETS') if not in_table_b1(sign)])
  refine ex_assign ?_
  refine ev_call ?_
  refine ev_blt H.H.B rfl rfl (by decide) H.H.no_iter boot_iter ?_
  refine ⟨kpr_blt, ?_⟩
  refine evs_cons ?_
  refine ev_comp (cl := []) (names := [".0", "sign"]) (nd := by decide +kernel) rfl (by decide +kernel) (by decide +kernel) rfl ?_
  refine ev_meth ?_ -- table.get('sETS')
  refine ev_loc (i := 5) rfl rfl rfl rfl ?_ -- table
  refine mth_own (x := x) (mem_st (.head _)) (mem_st (.tail _ (.head _))) H.ck H.c_get H.t_get (by decide) ?_
  refine ⟨H.f_get.kpr, ?_⟩
  refine evs_cons ?_
  refine ev_str ?_ -- 'sETS'
  rw [sETS_tx]
  refine evs_nil ?_
  refine get (x := x) (d := d) (hl := hl) (tbl := [(tp, setsN, tapeL T D)]) H (by show c.A.depth + 1 + 1 < _; omega) sETSN_ltr (by decide) (fun t h => by obtain rfl := List.mem_singleton.mp h; exact ⟨setsN_ltr, by show setsN.length ≤ _; decide⟩) (by simp) (fun p hp => List.mem_append_left _ hp) ?_
  rw [show gotOne [(tp, setsN, tapeL T D)] sETSN = some (tapeL T D) from rfl]
  refine ⟨_, _, itb_str, trivial, fun L2 => ?_⟩
  rw [signs_tx]
  refine ct_filterA (fun c : Nat => V.str (one c)) (fun c : Nat => !b1.contains (c : Int)) (fun c : Nat => V.int (c : Int)) trivial (sz (by omega)) (fun s hs p q => ?_) ?_
  · refine asg_name (sto_loc (i := 1) rfl rfl ?_)
    refine et_not ?_
    refine et_plain ?_ -- in_table_b1(sign)
    refine ev_call ?_
    refine ev_glob (V0 := .ref aB1) H.H.B rfl rfl H.H.g_in_table_b1 rfl ?_
    refine ⟨H.H.f_b1.kpr, ?_⟩
    refine evs_cons ?_
    refine ev_loc (i := 1) rfl rfl rfl rfl ?_ -- sign
    refine evs_nil ?_
    refine in_b1 H.H (by show c.A.depth + 1 < _; omega) ?_
    refine tru_bool ?_
    refine ⟨rfl, .refl _, fun _ => ?_⟩
    refine ev_call ?_ -- ord(sign)
    refine ev_blt H.H.B rfl rfl (by decide) H.H.no_ord boot_ord ?_
    refine ⟨kpr_blt, ?_⟩
    refine evs_cons ?_
    refine ev_loc (i := 1) rfl rfl rfl rfl ?_ -- sign
    refine evs_nil ?_
    refine cal_ord ?_
    exact ⟨rfl, .refl _⟩
  refine ⟨_, .refl _, fun fl => ?_⟩
  rw [tape_seen, show (flatD D).map (fun c : Nat => V.int (c : Int)) = nA (flatD D) from rfl]
  refine evs_nil ?_
  refine cal_iter (mem_st (.head _)) fun it => ?_
  refine sto_cell rfl rfl (.tail (.tail (Upd.app (.tail (.tail (Upd.app (.tail (.tail (.tail (.tail (.tail (.tail .head)))))) τ))) (Tb x d hl [(tp, setsN, tapeL T D)])))) ?_ -- octets
  -- read = [_parse_varint(octets) for x in draws]
  refine ex_assign_comp (cl := [("octets", L + 1 + 1 + 1)]) (names := [".0", "x"]) (nd := by decide +kernel) rfl (by decide +kernel) (by decide +kernel) rfl ?_ rfl
  refine ev_loc (i := 3) rfl rfl rfl rfl ?_ -- draws
  refine ⟨_, _, itb_list (xs := nA D), mem_st (.tail _ (.tail _ (List.mem_append_right _ (.tail _ (.head _))))), fun L3 => ?_⟩
  refine ct_seq (fun i => (it, .liter fl (posD D i)) :: (fl, .list (nA (flatD D))) :: (Tb x d hl [(tp, setsN, tapeL T D)] ++ ((tl, .list (((D.map fun n : Nat => [unseenC (T + n)] ++ octT n).map tx).map V.str)) :: (da, .list (nA D)) :: (τ ++ (c9 L (some (.int T)) lar (some (.ref it)) set mix par gre wor cho ++ σ))))) (fun j => V.int ((D.getD j 0 : Nat) : Int))
    (fun i => mem_st (.tail _ (.tail _ (List.mem_append_right _ (.tail _ (.head _)))))) _ [] 0 (sz (by rw [nA_len]; simp; omega)) (fun j x' hx p q => ?_) ?_
  · have hj : j < D.length := by have := (List.getElem?_eq_some_iff.mp hx).1; rw [nA_len] at this; exact this
    have hdj : D[j]? = some (D.getD j 0) := by rw [List.getD_eq_getElem?_getD, List.getElem?_eq_getElem hj]; rfl
    rw [Nat.zero_add]
    refine asg_name (sto_loc (i := 1) rfl rfl ?_)
    refine ev_call ?_ -- _parse_varint(octets)
    refine ev_glob (V0 := .ref aVarint) H.H.B rfl rfl H.H.g_parse_varint rfl ?_
    refine ⟨H.H.f_varint.kpr, ?_⟩
    refine evs_cons ?_
    refine ev_cell (Or.inl rfl) rfl rfl rfl (.tail _ (.tail _ (List.mem_append_right _ (.tail _ (.tail _ (List.mem_append_right _ (List.mem_append_left _ (List.mem_of_getElem? (i := 6) rfl)))))))) ?_ -- octets
    refine evs_nil ?_
    refine varint H.H (by show c.A.depth + 1 < _; omega) (bs := flatD D) (i := posD D j) (j := posD D (j + 1)) (v := D.getD j 0) (l := fl)
      (fun a => (it, .liter fl a) :: (fl, .list (nA (flatD D))) :: (Tb x d hl [(tp, setsN, tapeL T D)] ++ ((tl, .list (((D.map fun n : Nat => [unseenC (T + n)] ++ octT n).map tx).map V.str)) :: (da, .list (nA D)) :: (τ ++ (c9 L (some (.int T)) lar (some (.ref it)) set mix par gre wor cho ++ σ))))) (fun a b => .head) (fun a => .tail _ (.head _)) (vd_pos D j _ hdj) (posD_le _ _) ?_ ⟨rfl, .refl _⟩
    have := hlt _ (List.mem_of_getElem? hdj)
    have e : (2 : Nat) ^ 60 = 1152921504606846976 := by decide
    omega
  refine ⟨_, .refl _, fun rd q => ?_⟩
  rw [nA_len, Nat.zero_add, show ([] : List V) ++ (List.range' 0 D.length).map (fun j => V.int ((D.getD j 0 : Nat) : Int)) = nA D by
    rw [List.nil_append, ← List.range_eq_range']
    unfold nA
    apply List.ext_getElem
    · simp
    · intro i h1 h2
      simp at h1 h2
      simp [List.getD_eq_getElem?_getD, List.getElem?_eq_getElem h2]]
  refine sto_loc (i := 6) rfl rfl ?_ -- read
  -- if read != draws or list(octets) != []:
  refine ex_if ?_
  refine et_or ?_
  refine et_cmp ?_ -- read != draws
  refine ev_loc (i := 6) rfl rfl rfl rfl ?_ -- read
  refine ev_loc (i := 3) rfl rfl rfl rfl ?_ -- draws
  refine cmp_lne V.int eqat_int (xs := D.map fun n : Nat => (n : Int)) (ys := D.map fun n : Nat => (n : Int)) (mem_st (by rw [← nA_iV]; exact .head _)) (mem_st (by rw [← nA_iV]; exact .tail _ (.tail _ (.tail _ (List.mem_append_right _ (.tail _ (.head _))))))) hu ?_
  rw [beq_self_eq_true]
  refine tru_bool ?_
  refine ⟨fun _ => ?_, fun e => (nomatch e)⟩
  refine et_or ?_
  refine et_cmp ?_ -- list(octets) != []
  refine ev_call ?_ -- list(octets)
  refine ev_blt H.H.B rfl rfl (by decide) H.H.no_list boot_list ?_
  refine ⟨kpr_type, ?_⟩
  refine evs_cons ?_
  refine ev_cell (Or.inl rfl) rfl rfl rfl (.tail _ (.tail _ (.tail _ (List.mem_append_right _ (.tail _ (.tail _ (List.mem_append_right _ (List.mem_append_left _ (List.mem_of_getElem? (i := 6) rfl))))))))) ?_ -- octets
  refine evs_nil ?_
  have hp3 : posD D D.length = (nA (flatD D)).length := by unfold posD; rw [nA_len, List.take_length]
  refine cal_list_liter (l := fl) (xs := nA (flatD D)) (mem_st (.tail _ (.tail _ (.head _)))) (by rw [← hp3]; exact .tail .head) fun e1 => ?_
  refine ev_list ?_
  refine evs_nil ?_
  refine ⟨sz (by simp), fun e2 => ?_⟩
  refine cmp_lne V.int eqat_int (xs := []) (ys := []) (mem_st (.tail _ (.head _))) (mem_st (.head _)) hu ?_
  refine tru_bool ?_
  refine ⟨fun _ => ?_, fun e => (nomatch e)⟩
  refine et_or_nil ?_
  refine ⟨fun e => (nomatch e), fun _ => ?_⟩
  refine ex_nil ?_
  refine Ex.wk (m' := [(2, .ref sm), (5, .ref x), (6, .ref rd)]) (.of ⟨rfl, rfl, rfl, trivial⟩ ?_) (h x d hl tp rd (some (.ref it)))
  exact .cons _ (.cons _ (.cons_cons _ (.cons _ (.append_left (.cons _ (.cons _ (.refl _))) _))))
end
end Mine
end

section
set_option maxRecDepth 100000
namespace Mine
def setsL (D : List Nat) : List Nat := D.map fun n => 1 + n % 7
def mixL (T : Int) (p : Nat) : List Nat := if p = 0 then [65 + (T % 24).toNat, 98 + (T % 24).toNat, 67 + (T % 24).toNat] else [97 + (T % 24).toNat, 66 + (T % 24).toNat, 99 + (T % 24).toNat]
def partL (T : Int) (S : List Nat) (i : Nat) : List Nat := lettersL (S.getD i 0) (mixL T (i % 2))
def five2 (i : Nat) : Nat := if i % 2 = 0 then 5 else 2
def greatN (T : Int) (S : List Nat) (i : Nat) : Nat := (lettersL (S.getD i 0 &&& five2 i) (laL T)).length
def ordL : List (List Nat) := [[0, 1, 2], [0, 2, 1], [1, 0, 2], [1, 2, 0], [2, 0, 1], [2, 1, 0]]
/-- what lies beside the table -/
def X03 (T : Int) (S : List Nat) (oa o0 o1 o2 o3 o4 o5 ga pa se la sm : Addr) : Sto :=
  [(oa, .list [.ref o0, .ref o1, .ref o2, .ref o3, .ref o4, .ref o5]), (o5, .list (nA [2, 1, 0])), (o4, .list (nA [2, 0, 1])), (o3, .list (nA [1, 2, 0])), (o2, .list (nA [1, 0, 2])), (o1, .list (nA [0, 2, 1])), (o0, .list (nA [0, 1, 2])),
   (ga, .list (nA ((List.range S.length).map (greatN T S)))), (pa, .list (((List.range S.length).map (partL T S)).map fun l => V.str (tx l))), (se, .list (nA S)), (la, .list (sgV (laL T))), (sm, .list (sgV (smL T)))]
theorem perm5 (r : Addr × O) (B τ C σ : Sto) : (r :: (B ++ (τ ++ (C ++ σ)))).Perm ((C ++ (r :: τ)) ++ (B ++ σ)) := by
  rw [List.append_assoc, List.cons_append]
  refine List.Perm.trans (.cons _ ?_) List.perm_middle.symm
  refine (perm_rot _ _ _ _).trans ?_
  rw [← List.append_assoc τ C, ← List.append_assoc C τ]
  exact List.Perm.append_right _ List.perm_append_comm
theorem perm6 (N C τ R : Sto) : (N ++ ((C ++ τ) ++ R)).Perm ((C ++ (N ++ τ)) ++ R) := by
  rw [← List.append_assoc, ← List.append_assoc, ← List.append_assoc]
  exact List.Perm.append_right _ (List.Perm.append_right _ List.perm_append_comm)
theorem getD_get {l : List Nat} {i : Nat} (h : i < l.length) : l[i]? = some (l.getD i 0) := by rw [List.getD_eq_getElem?_getD, List.getElem?_eq_getElem h]; rfl
section
variable {w : World} {S0 : Shared} {Kf : Frag} {c : Cx} {m : Ms} {σ : Sto} {K : Fl → Ms → Sto → Prop} {mg mb : Str → Option Value}
variable {pm cd : Value} {L : Addr} (FO : FnOk S0 aLaw (mkFd stLaw "law" pm cd .none .none) (bodyOf stLaw) (locals (scopeOf stLaw)))
theorem lawCC (H : Hc S0 Kf mg mb) (hroom : c.A.depth + 2 < recursionLimit) {T : Int} {D : List Nat} {sm la x d hl rd : Addr} {tbl : List Row} {tot oct : Option V} (hD : D.length ≤ 4)
    (h : ∀ oa o0 o1 o2 o3 o4 o5 ga pa se mix, Ex pw w S0 (lawC c m L FO) (lawB 16) [(2, .ref sm), (5, .ref x), (8, .ref oa)]
      ((c9 L tot (some (.ref la)) oct (some (.ref se)) mix (some (.ref pa)) (some (.ref ga)) .none .none ++ X03 T (setsL D) oa o0 o1 o2 o3 o4 o5 ga pa se la sm) ++ (Tb x d hl tbl ++ σ)) K) :
    Ex pw w S0 (lawC c m L FO) (lawB 11) [(2, .ref sm), (5, .ref x), (6, .ref rd)]
      ((rd, .list (nA D)) :: (Tb x d hl tbl ++ ([(la, .list (sgV (laL T))), (sm, .list (sgV (smL T)))] ++ (c9 L tot (some (.ref la)) oct .none .none .none .none .none .none ++ σ)))) K := by
  have hSl : (setsL D).length ≤ 4 := by simp [setsL]; exact hD
  refine Ex.perm (perm5 _ _ _ _ _) ?_
  -- sets = [1 + x % 7 for x in read]
  refine ex_assign ?_
  refine ev_comp (cl := []) (names := [".0", "x"]) (nd := by decide +kernel) rfl (by decide +kernel) (by decide +kernel) rfl ?_
  refine ev_loc (i := 6) rfl rfl rfl rfl ?_ -- read
  refine ⟨_, _, itb_list (xs := nA D), mem_st (List.mem_of_getElem? (i := 9) rfl), fun L3 => ?_⟩
  refine ct_mapA (fun n : Nat => V.int (n : Int)) (fun n : Nat => V.int ((1 + n % 7 : Nat) : Int)) (mem_st (List.mem_of_getElem? (i := 9) rfl)) (sz (by omega)) (fun n hn p q => ?_) ?_
  · refine asg_name (sto_loc (i := 1) rfl rfl ?_)
    refine ev_bin ?_
    refine ev_int ?_ -- 1
    refine ev_bin ?_
    refine ev_loc (i := 1) rfl rfl rfl rfl ?_ -- x
    refine ev_int ?_ -- 7
    refine bin_mod (by decide) ?_
    rw [show ((n : Nat) : Int).fmod 7 = ((n % 7 : Nat) : Int) from fmod_nat _ 7]
    refine bin_add ?_ -- 1 + x % 7
    exact ⟨rfl, .refl _⟩
  refine ⟨_, .refl _, fun se => ?_⟩
  rw [show (D.map fun n : Nat => V.int ((1 + n % 7 : Nat) : Int)) = nA (setsL D) by unfold nA setsL; rw [List.map_map]; rfl]
  generalize setsL D = S at h hSl ⊢
  refine sto_cell rfl rfl (.tail (.tail (.tail (.tail (.tail (.tail .head)))))) ?_ -- sets
  -- mixed = [[large[0], small[1], large[2]], [small[0], large[1], small[2]]]
  refine ex_assign ?_
  refine ev_list ?_
  refine evs_cons ?_
  refine ev_list ?_
  refine evs_cons ?_
  refine ev_sub ?_
  refine ev_cell (Or.inl rfl) rfl rfl rfl (List.mem_of_getElem? (i := 8) rfl) ?_ -- large
  refine ev_int ?_ -- 0
  refine sub_list (xs := sgV (laL T)) (List.mem_of_getElem? (i := 11) rfl) (by show -((3 : Nat) : Int) ≤ _; decide) (by decide) (by show (3 : Nat) < _; decide) rfl ?_
  refine evs_cons ?_
  refine ev_sub ?_
  refine ev_loc (i := 2) rfl rfl rfl rfl ?_ -- small
  refine ev_int ?_ -- 1
  refine sub_list (xs := sgV (smL T)) (List.mem_of_getElem? (i := 12) rfl) (by show -((3 : Nat) : Int) ≤ _; decide) (by decide) (by show (3 : Nat) < _; decide) rfl ?_
  refine evs_cons ?_
  refine ev_sub ?_
  refine ev_cell (Or.inl rfl) rfl rfl rfl (List.mem_of_getElem? (i := 8) rfl) ?_ -- large
  refine ev_int ?_ -- 2
  refine sub_list (xs := sgV (laL T)) (List.mem_of_getElem? (i := 11) rfl) (by show -((3 : Nat) : Int) ≤ _; decide) (by decide) (by show (3 : Nat) < _; decide) rfl ?_
  refine evs_nil ?_
  refine ⟨sz (by simp), fun m0 => ?_⟩
  refine evs_cons ?_
  refine ev_list ?_
  refine evs_cons ?_
  refine ev_sub ?_
  refine ev_loc (i := 2) rfl rfl rfl rfl ?_ -- small
  refine ev_int ?_ -- 0
  refine sub_list (xs := sgV (smL T)) (List.mem_of_getElem? (i := 13) rfl) (by show -((3 : Nat) : Int) ≤ _; decide) (by decide) (by show (3 : Nat) < _; decide) rfl ?_
  refine evs_cons ?_
  refine ev_sub ?_
  refine ev_cell (Or.inl rfl) rfl rfl rfl (List.mem_of_getElem? (i := 9) rfl) ?_ -- large
  refine ev_int ?_ -- 1
  refine sub_list (xs := sgV (laL T)) (List.mem_of_getElem? (i := 12) rfl) (by show -((3 : Nat) : Int) ≤ _; decide) (by decide) (by show (3 : Nat) < _; decide) rfl ?_
  refine evs_cons ?_
  refine ev_sub ?_
  refine ev_loc (i := 2) rfl rfl rfl rfl ?_ -- small
  refine ev_int ?_ -- 2
  refine sub_list (xs := sgV (smL T)) (List.mem_of_getElem? (i := 13) rfl) (by show -((3 : Nat) : Int) ≤ _; decide) (by decide) (by show (3 : Nat) < _; decide) rfl ?_
  refine evs_nil ?_
  refine ⟨sz (by simp), fun m1 => ?_⟩
  refine evs_nil ?_
  refine ⟨sz (by simp), fun ma => ?_⟩
  refine sto_cell rfl rfl (.tail (.tail (.tail (.tail (.tail (.tail (.tail (.tail .head)))))))) ?_ -- mixed
  have hmix : ∀ i, ∃ r, ([V.ref m0, V.ref m1] : List V)[i % 2]? = some (.ref r) ∧ ((r = m0 ∧ mixL T (i % 2) = mixL T 0) ∨ (r = m1 ∧ mixL T (i % 2) = mixL T 1)) := fun i => by
    rcases Nat.mod_two_eq_zero_or_one i with h2 | h2
    · exact ⟨m0, by rw [h2]; rfl, .inl ⟨rfl, by rw [h2]⟩⟩
    · exact ⟨m1, by rw [h2]; rfl, .inr ⟨rfl, by rw [h2]⟩⟩
  -- parts = [_law_letters(sets[i], mixed[i % 2]) for i in range(len(sets))]
  refine ex_assign ?_
  refine ev_comp (cl := [("sets", L + 1 + 1 + 1 + 1), ("mixed", L + 1 + 1 + 1 + 1 + 1)]) (names := [".0", "i"]) (nd := by decide +kernel) rfl (by decide +kernel) (by decide +kernel) rfl ?_
  refine ev_call ?_ -- range(len(sets))
  refine ev_blt H.H.B rfl rfl (by decide) H.H.no_range boot_range ?_
  refine ⟨kpr_type, ?_⟩
  refine evs_cons ?_
  refine ev_call ?_ -- len(sets)
  refine ev_blt H.H.B rfl rfl (by decide) H.H.no_len boot_len ?_
  refine ⟨kpr_blt, ?_⟩
  refine evs_cons ?_
  refine ev_cell (Or.inl rfl) rfl rfl rfl (List.mem_of_getElem? (i := 9) rfl) ?_ -- sets
  refine evs_nil ?_
  refine cal_len_list (xs := nA S) (mem_st (List.mem_of_getElem? (i := 3) rfl)) (by rw [nA_len]; omega) ?_
  rw [nA_len]
  refine evs_nil ?_
  refine cal_range1 fun rr => ?_
  refine ⟨_, _, itb_range (n := S.length) (small_nat _ (by omega)) (size_nat _), mem_st (.head _), fun L2 => ?_⟩
  rw [range_nV]
  refine ct_mapA (xs := List.range S.length) (fun j : Nat => V.int (j : Int)) (fun j => V.str (tx (partL T S j))) (mem_st (.head _)) (sz (by simp; omega)) (fun i hi p q => ?_) ?_
  · have hi : i < S.length := List.mem_range.mp hi
    obtain ⟨r, hr1, hr2⟩ := hmix i
    refine asg_name (sto_loc (i := 1) rfl rfl ?_)
    refine ev_call ?_ -- _law_letters(sets[i], mixed[i % 2])
    refine ev_glob (V0 := .ref aLetters) H.H.B rfl rfl H.H.g_law_letters rfl ?_
    refine ⟨H.H.f_letters.kpr, ?_⟩
    refine evs_cons ?_
    refine ev_sub ?_
    refine ev_cell (Or.inl rfl) rfl rfl rfl (List.mem_of_getElem? (i := 10) rfl) ?_ -- sets
    refine ev_loc (i := 1) rfl rfl rfl rfl ?_ -- i
    refine sub_list (xs := nA S) (x := .int (S.getD i 0 : Nat)) (List.mem_of_getElem? (i := 4) rfl) (by rw [nA_len]; omega) (by omega) (by rw [nA_len]; omega) (by rw [ix_nat]; exact nA_get _ _ _ (getD_get hi)) ?_
    refine evs_cons ?_
    refine ev_sub ?_
    refine ev_cell (Or.inl rfl) rfl rfl rfl (List.mem_of_getElem? (i := 9) rfl) ?_ -- mixed
    refine ev_bin ?_
    refine ev_loc (i := 1) rfl rfl rfl rfl ?_ -- i
    refine ev_int ?_ -- 2
    refine bin_mod (by decide) ?_
    rw [show ((i : Nat) : Int).fmod 2 = ((i % 2 : Nat) : Int) from fmod_nat _ 2]
    refine sub_list (xs := [V.ref m0, V.ref m1]) (x := .ref r) (List.mem_of_getElem? (i := 1) rfl) (by simp; omega) (by omega) (by simp) (by rw [ix_nat]; exact hr1) ?_
    refine evs_nil ?_
    refine letters (ls := mixL T (i % 2)) H.H (by show c.A.depth + 1 < _; omega) (by unfold mixL; split <;> rfl) ?_ ?_
    · rcases hr2 with ⟨rfl, e⟩ | ⟨rfl, e⟩
      · rw [e]; exact List.mem_of_getElem? (i := 3) rfl
      · rw [e]; exact List.mem_of_getElem? (i := 2) rfl
    · exact ⟨rfl, .refl _⟩
  refine ⟨_, .refl _, fun pa => ?_⟩
  refine sto_cell rfl rfl (.tail (.tail (.tail (.tail (.tail (.tail (.tail (.tail (.tail .head))))))))) ?_ -- parts
  -- greats = [len(_law_letters(sets[i] & [5, 2][i % 2], large)) for i in range(len(sets))]
  refine ex_assign ?_
  refine ev_comp (cl := [("sets", L + 1 + 1 + 1 + 1), ("large", L + 1 + 1)]) (names := [".0", "i"]) (nd := by decide +kernel) rfl (by decide +kernel) (by decide +kernel) rfl ?_
  refine ev_call ?_ -- range(len(sets))
  refine ev_blt H.H.B rfl rfl (by decide) H.H.no_range boot_range ?_
  refine ⟨kpr_type, ?_⟩
  refine evs_cons ?_
  refine ev_call ?_ -- len(sets)
  refine ev_blt H.H.B rfl rfl (by decide) H.H.no_len boot_len ?_
  refine ⟨kpr_blt, ?_⟩
  refine evs_cons ?_
  refine ev_cell (Or.inl rfl) rfl rfl rfl (List.mem_of_getElem? (i := 11) rfl) ?_ -- sets
  refine evs_nil ?_
  refine cal_len_list (xs := nA S) (mem_st (List.mem_of_getElem? (i := 5) rfl)) (by rw [nA_len]; omega) ?_
  rw [nA_len]
  refine evs_nil ?_
  refine cal_range1 fun rr => ?_
  refine ⟨_, _, itb_range (n := S.length) (small_nat _ (by omega)) (size_nat _), mem_st (.head _), fun L4 => ?_⟩
  rw [range_nV]
  refine ct_mapA (xs := List.range S.length) (fun j : Nat => V.int (j : Int)) (fun j => V.int (greatN T S j : Nat)) (mem_st (.head _)) (sz (by simp; omega)) (fun i hi p q => ?_) ?_
  · have hi : i < S.length := List.mem_range.mp hi
    refine asg_name (sto_loc (i := 1) rfl rfl ?_)
    refine ev_call ?_ -- len(..)
    refine ev_blt H.H.B rfl rfl (by decide) H.H.no_len boot_len ?_
    refine ⟨kpr_blt, ?_⟩
    refine evs_cons ?_
    refine ev_call ?_ -- _law_letters(sets[i] & [5, 2][i % 2], large)
    refine ev_glob (V0 := .ref aLetters) H.H.B rfl rfl H.H.g_law_letters rfl ?_
    refine ⟨H.H.f_letters.kpr, ?_⟩
    refine evs_cons ?_
    refine ev_bin ?_
    refine ev_sub ?_
    refine ev_cell (Or.inl rfl) rfl rfl rfl (List.mem_of_getElem? (i := 12) rfl) ?_ -- sets
    refine ev_loc (i := 1) rfl rfl rfl rfl ?_ -- i
    refine sub_list (xs := nA S) (x := .int (S.getD i 0 : Nat)) (List.mem_of_getElem? (i := 6) rfl) (by rw [nA_len]; omega) (by omega) (by rw [nA_len]; omega) (by rw [ix_nat]; exact nA_get _ _ _ (getD_get hi)) ?_
    refine ev_sub ?_
    refine ev_list ?_
    refine evs_cons ?_
    refine ev_int ?_ -- 5
    refine evs_cons ?_
    refine ev_int ?_ -- 2
    refine evs_nil ?_
    refine ⟨sz (by simp), fun fv => ?_⟩
    refine ev_bin ?_
    refine ev_loc (i := 1) rfl rfl rfl rfl ?_ -- i
    refine ev_int ?_ -- 2
    refine bin_mod (by decide) ?_
    rw [show ((i : Nat) : Int).fmod 2 = ((i % 2 : Nat) : Int) from fmod_nat _ 2]
    refine sub_list (xs := [V.int 5, V.int 2]) (x := .int (five2 i : Nat)) (.head _) (by simp; omega) (by omega) (by simp) (by
      rw [ix_nat]; unfold five2
      rcases Nat.mod_two_eq_zero_or_one i with h2 | h2 <;> rw [h2] <;> rfl) ?_
    refine bin_and ?_ -- sets[i] & [5, 2][i % 2]
    rw [band_nat]
    refine evs_cons ?_
    refine ev_cell (Or.inl rfl) rfl rfl rfl (List.mem_of_getElem? (i := 15) rfl) ?_ -- large
    refine evs_nil ?_
    refine letters (ls := laL T) H.H (by show c.A.depth + 1 < _; omega) rfl (List.mem_of_getElem? (i := 18) rfl) ?_
    refine evs_nil ?_
    have := lettersL_len (S.getD i 0 &&& five2 i) (laL T)
    refine cal_len_str (by rw [len_tx]; omega) ?_
    rw [len_tx]
    exact ⟨rfl, .cons _ (.refl _)⟩
  refine ⟨_, .refl _, fun ga => ?_⟩
  refine sto_cell rfl rfl (.tail (.tail (.tail (.tail (.tail (.tail (.tail (.tail (.tail (.tail .head)))))))))) ?_ -- greats
  -- orders = ...
  refine ex_assign ?_
  refine ev_list ?_
  iterate 6 (
    refine evs_cons ?_
    refine ev_list ?_
    refine evs_cons ?_
    refine ev_int ?_
    refine evs_cons ?_
    refine ev_int ?_
    refine evs_cons ?_
    refine ev_int ?_
    refine evs_nil ?_
    refine ⟨sz (by simp), fun oz => ?_⟩)
  refine evs_nil ?_
  refine ⟨sz (by simp), fun oa => ?_⟩
  refine sto_loc (i := 8) rfl rfl ?_ -- orders
  rename_i o0 o1 o2 o3 o4
  refine Ex.perm (perm6 [(oa, .list [.ref o0, .ref o1, .ref o2, .ref o3, .ref o4, .ref oz]), (oz, .list (nA [2, 1, 0])), (o4, .list (nA [2, 0, 1])), (o3, .list (nA [1, 2, 0])), (o2, .list (nA [1, 0, 2])), (o1, .list (nA [0, 2, 1])), (o0, .list (nA [0, 1, 2])), _, _, _, _, _, _, _, _]
    (c9 L tot (some (.ref la)) oct (some (.ref se)) (some (.ref ma)) (some (.ref pa)) (some (.ref ga)) .none .none) [(rd, .list (nA D)), (la, .list (sgV (laL T))), (sm, .list (sgV (smL T)))] (Tb x d hl tbl ++ σ)) ?_
  refine Ex.wk (m' := [(2, .ref sm), (5, .ref x), (8, .ref oa)]) (.of ⟨rfl, rfl, rfl, trivial⟩ ?_) (h oa o0 o1 o2 o3 o4 oz ga pa se (some (.ref ma)))
  refine .append_right (.append_left ?_ _) _
  have e1 : ((List.range S.length).map fun j => V.int (greatN T S j : Nat)) = nA ((List.range S.length).map (greatN T S)) := by unfold nA; rw [List.map_map]; rfl
  have e2 : ((List.range S.length).map fun j => V.str (tx (partL T S j))) = ((List.range S.length).map (partL T S)).map fun l => V.str (tx l) := by rw [List.map_map]; rfl
  rw [e1, e2]
  exact .cons_cons _ (.cons_cons _ (.cons_cons _ (.cons_cons _ (.cons_cons _ (.cons_cons _ (.cons_cons _ (.cons_cons _ (.cons _ (.cons_cons _ (.cons _ (.cons _ (.cons _ (.cons _ (.cons_cons _ (.cons _ (.refl _))))))))))))))))
end
end Mine
end

section
set_option maxRecDepth 100000
namespace Mine
def hm (k p : Nat) : Nat := ((ordL.getD k []).take p).foldl (fun h j => h ||| 2 ^ j) 0
def overM (T : Int) (S : List Nat) (mk : Nat) : Int := minL ((List.range S.length).map fun i => overC (lettersL mk (smL T)) (partL T S i) (greatN T S i))
def entName (T : Int) (k mk : Nat) : List Nat := if k % 2 = 1 then lettersL mk (laL T) else lettersL mk (smL T)
def fpOk (T : Int) (S : List Nat) (k p : Nat) : Bool := overM T S (hm k p) == 0
def entF (T : Int) (k : Nat) : Option Nat → List (List Nat × List Nat)
  | some p => [(entName T k (hm k p), [48 + k])]
  | .none => []
def entO (T : Int) (S : List Nat) (k : Nat) : List (List Nat × List Nat) := entF T k ([1, 2, 3].find? (fpOk T S k))
theorem str6 : ∀ k : Fin 6, PySem.Str.ofString (toString ((k.1 : Nat) : Int)) = tx [48 + k.1] := by decide +kernel
theorem log6 : ∀ k : Fin 6, (((k.1 : Nat) : Int)).natAbs.log2 < 1920 := by decide +kernel
theorem lettersL_mem {ch : Nat} {ls : List Nat} (hl : ls.length = 3) : ∀ x ∈ lettersL ch ls, x ∈ ls := fun x hx => by
  obtain ⟨j, hj, rfl⟩ := List.mem_map.mp hx
  have hj3 : j < 3 := List.mem_range.mp (List.mem_filter.mp hj).1
  exact List.mem_of_getElem? (getD_get (i := j) (by omega))
theorem smL_lt (T : Int) : ∀ x ∈ smL T, 65 ≤ x ∧ x < 127 := fun x hx => by
  have h1 : (T % 24).toNat < 24 := by have := Int.emod_lt_of_pos T (show (0 : Int) < 24 by decide); omega
  simp only [smL, List.mem_cons, List.not_mem_nil, or_false] at hx
  omega
theorem laL_lt (T : Int) : ∀ x ∈ laL T, 65 ≤ x ∧ x < 127 := fun x hx => by
  have h1 : (T % 24).toNat < 24 := by have := Int.emod_lt_of_pos T (show (0 : Int) < 24 by decide); omega
  simp only [laL, List.mem_cons, List.not_mem_nil, or_false] at hx
  omega
theorem mixL_lt (T : Int) (p : Nat) : ∀ x ∈ mixL T p, 65 ≤ x ∧ x < 127 := fun x hx => by
  have h1 : (T % 24).toNat < 24 := by have := Int.emod_lt_of_pos T (show (0 : Int) < 24 by decide); omega
  unfold mixL at hx
  split at hx <;> simp only [List.mem_cons, List.not_mem_nil, or_false] at hx <;> omega
theorem let_sm (T : Int) (ch : Nat) : Ltr (lettersL ch (smL T)) := fun x hx => smL_lt T x (lettersL_mem rfl x hx)
theorem let_la (T : Int) (ch : Nat) : Ltr (lettersL ch (laL T)) := fun x hx => laL_lt T x (lettersL_mem rfl x hx)
theorem let_mix (T : Int) (S : List Nat) (i : Nat) : Ltr (partL T S i) := fun x hx => mixL_lt T (i % 2) x (lettersL_mem (by unfold mixL; split <;> rfl) x hx)
theorem Ltr.okc {l : List Nat} (h : Ltr l) : ∀ x ∈ l, Okc x := fun x hx => Okc.ascii (by have := h x hx; omega)
theorem bor_nat8 : ∀ a b : Fin 16, Builtin.bitOr ((a.1 : Nat) : Int) ((b.1 : Nat) : Int) = ((a.1 ||| b.1 : Nat) : Int) := by decide +kernel
theorem ord_lt : ∀ k : Fin 6, ∀ j ∈ ordL.getD k.1 [], j < 3 := by decide +kernel
theorem ord_len : ∀ k : Fin 6, (ordL.getD k.1 []).length = 3 := by decide +kernel
theorem hm_lt : ∀ (k : Fin 6) (p : Fin 4), hm k.1 p.1 < 8 := by decide +kernel
theorem hm_succ {k p j : Nat} (h : (ordL.getD k [])[p]? = some j) : hm k (p + 1) = hm k p ||| 2 ^ j := by
  unfold hm
  rw [List.take_add_one, h, List.foldl_append]; rfl
def St03 (L : Addr) (tot lar oct set mix par gre wor cho : Option V) (X : Sto) (x d hl : Addr) (tbl : List Row) (σ : Sto) : Sto := (c9 L tot lar oct set mix par gre wor cho ++ X) ++ (Tb x d hl tbl ++ σ)
section
variable {w : World} {S0 : Shared} {Kf : Frag} {c : Cx} {m : Ms} {σ : Sto} {K : Fl → Ms → Sto → Prop} {mg mb : Str → Option Value}
variable {pm cd : Value} {L : Addr} (FO : FnOk S0 aLaw (mkFd stLaw "law" pm cd .none .none) (bodyOf stLaw) (locals (scopeOf stLaw)))
def kB : List Stmt := bodyFor ((lawB 16).headD (.Pass ⟨0, 0, 0, 0⟩))
theorem turnD (H : Hc S0 Kf mg mb) (hroom : c.A.depth + 3 < recursionLimit) {T : Int} {S : List Nat} {sm la x d hl oa o0 o1 o2 o3 o4 o5 ga pa se : Addr} {tbl : List Row} {tot oct mix wor cho : Option V} {p0 : Addr × O} {k : Nat} (hk : k < 6) (hS : 0 < S.length ∧ S.length ≤ 4)
    (htb : tbl.length ≤ 100) (hov : ∀ p, p ≤ 3 → 0 ≤ overM T S (hm k p))
    (h : ∀ wor tbl', tbl'.map (·.2) = tbl.map (·.2) ++ entO T S k → tbl'.length ≤ tbl.length + 1 → ∀ m' σ', Wk m' σ' [(2, .ref sm), (5, .ref x), (8, .ref oa)]
      (St03 L tot (some (.ref la)) oct (some (.ref se)) mix (some (.ref pa)) (some (.ref ga)) wor cho (X03 T S oa o0 o1 o2 o3 o4 o5 ga pa se la sm) x d hl tbl' σ) → K .next m' σ') :
    Ex pw w S0 ((lawC c m L FO).push p0) kB [(9, .int (k : Int)), (2, .ref sm), (5, .ref x), (8, .ref oa)]
      (St03 L tot (some (.ref la)) oct (some (.ref se)) mix (some (.ref pa)) (some (.ref ga)) wor cho (X03 T S oa o0 o1 o2 o3 o4 o5 ga pa se la sm) x d hl tbl σ) K := by
  have hent : entO T S k = entF T k ([1, 2, 3].find? (fpOk T S k)) := rfl
  -- held = 0
  refine ex_assign ?_
  refine ev_int ?_
  refine sto_loc (i := 10) rfl rfl ?_ -- held
  -- for j in orders[k]:
  obtain ⟨r, hr1, hr2⟩ : ∃ r, ([.ref o0, .ref o1, .ref o2, .ref o3, .ref o4, .ref o5] : List V)[k]? = some (.ref r) ∧ (r, O.list (nA (ordL.getD k []))) ∈ X03 T S oa o0 o1 o2 o3 o4 o5 ga pa se la sm := by
    have : k = 0 ∨ k = 1 ∨ k = 2 ∨ k = 3 ∨ k = 4 ∨ k = 5 := by omega
    rcases this with rfl | rfl | rfl | rfl | rfl | rfl
    · exact ⟨o0, rfl, List.mem_of_getElem? (i := 6) rfl⟩
    · exact ⟨o1, rfl, List.mem_of_getElem? (i := 5) rfl⟩
    · exact ⟨o2, rfl, List.mem_of_getElem? (i := 4) rfl⟩
    · exact ⟨o3, rfl, List.mem_of_getElem? (i := 3) rfl⟩
    · exact ⟨o4, rfl, List.mem_of_getElem? (i := 2) rfl⟩
    · exact ⟨o5, rfl, List.mem_of_getElem? (i := 1) rfl⟩
  have hrm : ∀ wor, (r, O.list (nA (ordL.getD k []))) ∈ St03 L tot (some (.ref la)) oct (some (.ref se)) mix (some (.ref pa)) (some (.ref ga)) wor cho (X03 T S oa o0 o1 o2 o3 o4 o5 ga pa se la sm) x d hl tbl σ :=
    fun wor => List.mem_append_left _ (List.mem_append_right _ hr2)
  refine ex_for ?_
  refine ev_sub ?_
  refine ev_loc (i := 8) rfl rfl rfl rfl ?_ -- orders
  refine ev_loc (i := 9) rfl rfl rfl rfl ?_ -- k
  refine sub_list (xs := [.ref o0, .ref o1, .ref o2, .ref o3, .ref o4, .ref o5]) (x := .ref r) (List.mem_of_getElem? (i := 9) rfl) (by show -((6 : Nat) : Int) ≤ _; omega) (by omega) (by show (6 : Nat) < _; decide) (by rw [ix_nat]; exact hr1) ?_
  refine ⟨_, _, itb_list (xs := nA (ordL.getD k [])), ?_⟩
  refine turns_gen (fun xs m0 T0 => ∃ (p : Nat) (wor : Option V), xs = (nA (ordL.getD k [])).drop p ∧ p ≤ 3 ∧ [1, 2, 3].find? (fpOk T S k) = ([1, 2, 3].drop p).find? (fpOk T S k) ∧
      Wk m0 T0 [(2, .ref sm), (5, .ref x), (8, .ref oa), (9, .int (k : Int)), (10, .int (hm k p : Nat))] (St03 L tot (some (.ref la)) oct (some (.ref se)) mix (some (.ref pa)) (some (.ref ga)) wor cho (X03 T S oa o0 o1 o2 o3 o4 o5 ga pa se la sm) x d hl tbl σ)) ?_ ?_ ?_ _ _ _ ?_
  · rintro xs m0 T0 ⟨p, wor, -, -, -, hw⟩
    exact mem_st (hw.st.subset (hrm wor))
  · rintro y xs m0 T0 ⟨p, wor, hx, hp, hf, hw⟩ p1
    rw [nA_drop] at hx
    cases hdk : (ordL.getD k []).drop p with
    | nil => rw [hdk] at hx; cases hx
    | cons j js =>
    obtain ⟨hlt, hget, hjs⟩ := drop_at hdk.symm
    rw [hdk] at hx
    obtain ⟨rfl, rfl⟩ : y = .int (j : Int) ∧ xs = nA js := by
      have := List.cons.inj hx; exact ⟨this.1, this.2⟩
    have hp3 : p < 3 := by rw [ord_len ⟨k, hk⟩] at hlt; exact hlt
    have hj3 : j < 3 := ord_lt ⟨k, hk⟩ j (List.mem_of_getElem? hget)
    have hm8 := hm_lt ⟨k, hk⟩ ⟨p, by omega⟩
    have hs := hm_succ hget
    refine asg_name (sto_loc (i := 11) rfl rfl ?_)
    refine Ex.wk (wk_cons hw 11 _) ?_
    -- held = held | 1 << j
    refine ex_assign ?_
    refine ev_bin ?_
    refine ev_loc (i := 10) rfl rfl rfl rfl ?_ -- held
    refine ev_bin ?_
    refine ev_int ?_ -- 1
    refine ev_loc (i := 11) rfl rfl rfl rfl ?_ -- j
    refine bin_shl (by omega) (by omega) (by decide) ?_
    rw [shl_nat]
    refine bin_or ?_ -- held | 1 << j
    have h2j : 2 ^ j < 16 := by
      have : j = 0 ∨ j = 1 ∨ j = 2 := by omega
      rcases this with rfl | rfl | rfl <;> decide
    rw [show Builtin.bitOr ((hm k p : Nat) : Int) ((2 ^ j : Nat) : Int) = ((hm k p ||| 2 ^ j : Nat) : Int) from bor_nat8 ⟨hm k p, by simp only at hm8; omega⟩ ⟨2 ^ j, h2j⟩, ← hs]
    refine sto_loc (i := 10) rfl rfl ?_ -- held
    -- word = _law_letters(held, small)
    refine ex_assign ?_
    refine ev_call ?_ -- _law_letters(held, small)
    refine ev_glob (V0 := .ref aLetters) H.H.B rfl rfl H.H.g_law_letters rfl ?_
    refine ⟨H.H.f_letters.kpr, ?_⟩
    refine evs_cons ?_
    refine ev_loc (i := 10) rfl rfl rfl rfl ?_ -- held
    refine evs_cons ?_
    refine ev_loc (i := 2) rfl rfl rfl rfl ?_ -- small
    refine evs_nil ?_
    refine letters (ls := smL T) H.H (by show c.A.depth + 1 < _; omega) rfl (List.mem_of_getElem? (i := 20) rfl) ?_
    refine sto_cell rfl rfl (.tail .head) ?_ -- word
    -- over = min([_law_over(word, parts[i], greats[i]) for i in range(len(sets))])
    refine ex_assign ?_
    refine ev_call ?_
    refine ev_blt H.H.B rfl rfl (by decide) H.H.no_min boot_min ?_
    refine ⟨kpr_blt, ?_⟩
    refine evs_cons ?_
    refine ev_comp (cl := [("word", L + 1 + 1 + 1 + 1 + 1 + 1 + 1 + 1), ("parts", L + 1 + 1 + 1 + 1 + 1 + 1), ("greats", L + 1 + 1 + 1 + 1 + 1 + 1 + 1)]) (names := [".0", "i"]) (nd := by decide +kernel) rfl (by decide +kernel) (by decide +kernel) rfl ?_
    refine ev_call ?_ -- range(len(sets))
    refine ev_blt H.H.B rfl rfl (by decide) H.H.no_range boot_range ?_
    refine ⟨kpr_type, ?_⟩
    refine evs_cons ?_
    refine ev_call ?_ -- len(sets)
    refine ev_blt H.H.B rfl rfl (by decide) H.H.no_len boot_len ?_
    refine ⟨kpr_blt, ?_⟩
    refine evs_cons ?_
    refine ev_cell (Or.inl rfl) rfl rfl rfl (List.mem_of_getElem? (i := 5) rfl) ?_ -- sets
    refine evs_nil ?_
    refine cal_len_list (xs := nA S) (mem_st (List.mem_of_getElem? (i := 18) rfl)) (by rw [nA_len]; omega) ?_
    rw [nA_len]
    refine evs_nil ?_
    refine cal_range1 fun rr => ?_
    refine ⟨_, _, itb_range (n := S.length) (small_nat _ (by omega)) (size_nat _), mem_st (.head _), fun L2 => ?_⟩
    rw [range_nV]
    refine ct_mapA (xs := List.range S.length) (fun j : Nat => V.int (j : Int)) (fun i => V.int (overC (lettersL (hm k (p + 1)) (smL T)) (partL T S i) (greatN T S i))) (mem_st (.head _)) (sz (by simp; omega)) (fun i hi p2 q2 => ?_) ?_
    · have hi : i < S.length := List.mem_range.mp hi
      have hgl : ((List.range S.length).map (greatN T S))[i]? = some (greatN T S i) := by rw [List.getElem?_map, List.getElem?_range hi]; rfl
      have hpl : (((List.range S.length).map (partL T S)).map fun l => V.str (tx l))[i]? = some (.str (tx (partL T S i))) := by rw [List.getElem?_map, List.getElem?_map, List.getElem?_range hi]; rfl
      refine asg_name (sto_loc (i := 1) rfl rfl ?_)
      refine ev_call ?_ -- _law_over(word, parts[i], greats[i])
      refine ev_glob (V0 := .ref aOver) H.H.B rfl rfl H.H.g_law_over rfl ?_
      refine ⟨H.H.f_over.kpr, ?_⟩
      refine evs_cons ?_
      refine ev_cell (Or.inl rfl) rfl rfl rfl (List.mem_of_getElem? (i := 2) rfl) ?_ -- word
      refine evs_cons ?_
      refine ev_sub ?_
      refine ev_cell (Or.inl rfl) rfl rfl rfl (List.mem_of_getElem? (i := 4) rfl) ?_ -- parts
      refine ev_loc (i := 1) rfl rfl rfl rfl ?_ -- i
      refine sub_list (xs := ((List.range S.length).map (partL T S)).map fun l => V.str (tx l)) (List.mem_of_getElem? (i := 18) rfl) (by rw [List.length_map, List.length_map, List.length_range]; omega) (by omega) (by rw [List.length_map, List.length_map, List.length_range]; omega) (by rw [ix_nat]; exact hpl) ?_
      refine evs_cons ?_
      refine ev_sub ?_
      refine ev_cell (Or.inl rfl) rfl rfl rfl (List.mem_of_getElem? (i := 3) rfl) ?_ -- greats
      refine ev_loc (i := 1) rfl rfl rfl rfl ?_ -- i
      refine sub_list (xs := nA ((List.range S.length).map (greatN T S))) (x := .int (greatN T S i : Nat)) (List.mem_of_getElem? (i := 17) rfl) (by rw [nA_len]; omega) (by omega) (by rw [nA_len]; simp; omega) (by rw [ix_nat]; exact nA_get _ _ _ hgl) ?_
      refine evs_nil ?_
      have := lettersL_len (hm k (p + 1)) (smL T)
      have := lettersL_len (S.getD i 0) (mixL T (i % 2))
      refine over H.H (by show c.A.depth + 1 + 2 < _; omega) (by omega) (by unfold partL; omega) (let_sm _ _).okc (let_mix _ _ _).okc ?_
      exact ⟨rfl, .refl _⟩
    refine ⟨_, .refl _, fun ol => ?_⟩
    rw [show ((List.range S.length).map fun i => V.int (overC (lettersL (hm k (p + 1)) (smL T)) (partL T S i) (greatN T S i))) = ((List.range S.length).map fun i => overC (lettersL (hm k (p + 1)) (smL T)) (partL T S i) (greatN T S i)).map V.int by rw [List.map_map]; rfl]
    refine evs_nil ?_
    refine cal_min_list (mem_st (.head _)) (fun e => by rw [List.map_eq_nil_iff, List.range_eq_nil] at e; omega) ?_
    rw [show minL ((List.range S.length).map fun i => overC (lettersL (hm k (p + 1)) (smL T)) (partL T S i) (greatN T S i)) = overM T S (hm k (p + 1)) from rfl]
    refine sto_loc (i := 12) rfl rfl ?_ -- over
    have hov1 := hov (p + 1) (by omega)
    have hfind : ([1, 2, 3].drop p).find? (fpOk T S k) = if fpOk T S k (p + 1) = true then some (p + 1) else ([1, 2, 3].drop (p + 1)).find? (fpOk T S k) := by
      have e : [1, 2, 3].drop p = (p + 1) :: [1, 2, 3].drop (p + 1) := by
        have : p = 0 ∨ p = 1 ∨ p = 2 := by omega
        rcases this with rfl | rfl | rfl <;> rfl
      rw [e, List.find?_cons]
      cases fpOk T S k (p + 1) <;> rfl
    have hfp : fpOk T S k (p + 1) = (overM T S (hm k (p + 1)) == 0) := rfl
    generalize overM T S (hm k (p + 1)) = ov at hov1 hfp ⊢
    -- if over < 0:
    refine ex_if ?_
    refine et_cmp ?_ -- over < 0
    refine ev_loc (i := 12) rfl rfl rfl rfl ?_ -- over
    refine ev_int ?_ -- 0
    refine cmp_lt ?_
    refine tru_bool ?_
    refine ⟨fun ht => absurd (of_decide_eq_true ht) (by omega), fun _ => ?_⟩
    refine ex_nil ?_
    -- if over == 0:
    refine ex_if ?_
    refine et_cmp ?_ -- over == 0
    refine ev_loc (i := 12) rfl rfl rfl rfl ?_ -- over
    refine ev_int ?_ -- 0
    refine cmp_eq ?_
    refine tru_bool ?_
    rw [← hfp]
    have hwk : ∀ m1 (o1' : Sto), (∃ pre, o1' = pre ++ St03 L tot (some (.ref la)) oct (some (.ref se)) mix (some (.ref pa)) (some (.ref ga)) (some (.str (tx (lettersL (hm k (p + 1)) (smL T))))) cho (X03 T S oa o0 o1 o2 o3 o4 o5 ga pa se la sm) x d hl tbl σ) →
        SubMs [(2, .ref sm), (5, .ref x), (8, .ref oa), (9, .int (k : Int)), (10, .int (hm k (p + 1) : Nat))] m1 →
        Wk m1 o1' [(2, .ref sm), (5, .ref x), (8, .ref oa), (9, .int (k : Int)), (10, .int (hm k (p + 1) : Nat))] (St03 L tot (some (.ref la)) oct (some (.ref se)) mix (some (.ref pa)) (some (.ref ga)) (some (.str (tx (lettersL (hm k (p + 1)) (smL T))))) cho (X03 T S oa o0 o1 o2 o3 o4 o5 ga pa se la sm) x d hl tbl σ) :=
      fun m1 o1' ⟨pre, e⟩ hm => .of hm (by rw [e]; exact List.sublist_append_right _ _)
    refine ⟨fun ht => ?_, fun hb => ?_⟩
    · rw [hf, hfind, if_pos ht] at hent
      refine Ex.wk (hwk _ _ ⟨[_, _], rfl⟩ ⟨rfl, rfl, rfl, rfl, rfl, trivial⟩) ?_
      -- table.add_header(_law_letters(held, large) if k % 2 == 1 else word, str(k))
      refine ex_expr ?_
      refine ev_meth ?_
      refine ev_loc (i := 5) rfl rfl rfl rfl ?_ -- table
      refine mth_own (x := x) (mem_st (List.mem_of_getElem? (i := 21) rfl)) (mem_st (List.mem_of_getElem? (i := 22) rfl)) H.ck H.c_add H.t_add (by decide) ?_
      refine ⟨H.f_add.kpr, ?_⟩
      refine evs_cons ?_
      refine Ev.mono (K := fun v σ' => v = .str (tx (entName T k (hm k (p + 1)))) ∧ σ' = St03 L tot (some (.ref la)) oct (some (.ref se)) mix (some (.ref pa)) (some (.ref ga)) (some (.str (tx (lettersL (hm k (p + 1)) (smL T))))) cho (X03 T S oa o0 o1 o2 o3 o4 o5 ga pa se la sm) x d hl tbl σ) ?_ ?_
      · refine ev_if ?_
        refine et_cmp ?_ -- k % 2 == 1
        refine ev_bin ?_
        refine ev_loc (i := 9) rfl rfl rfl rfl ?_ -- k
        refine ev_int ?_ -- 2
        refine bin_mod (by decide) ?_
        rw [show ((k : Nat) : Int).fmod 2 = ((k % 2 : Nat) : Int) from fmod_nat _ 2]
        refine ev_int ?_ -- 1
        refine cmp_eq ?_
        refine tru_bool ?_
        refine ⟨fun h1 => ?_, fun h1 => ?_⟩
        · have h1 : k % 2 = 1 := by have := eq_of_beq h1; omega
          refine ev_call ?_ -- _law_letters(held, large)
          refine ev_glob (V0 := .ref aLetters) H.H.B rfl rfl H.H.g_law_letters rfl ?_
          refine ⟨H.H.f_letters.kpr, ?_⟩
          refine evs_cons ?_
          refine ev_loc (i := 10) rfl rfl rfl rfl ?_ -- held
          refine evs_cons ?_
          refine ev_cell (Or.inl rfl) rfl rfl rfl (List.mem_of_getElem? (i := 7) rfl) ?_ -- large
          refine evs_nil ?_
          refine letters (ls := laL T) H.H (by show c.A.depth + 1 < _; omega) rfl (List.mem_of_getElem? (i := 19) rfl) ?_
          exact ⟨by unfold entName; rw [if_pos h1], rfl⟩
        · have h1 : ¬ k % 2 = 1 := by have := beq_eq_false_iff_ne.mp h1; omega
          refine ev_cell (Or.inl rfl) rfl rfl rfl (List.mem_of_getElem? (i := 1) rfl) ?_ -- word
          exact ⟨by unfold entName; rw [if_neg h1], rfl⟩
      rintro _ _ ⟨rfl, rfl⟩
      refine evs_cons ?_
      refine ev_call ?_ -- str(k)
      refine ev_blt H.H.B rfl rfl (by decide) H.H.no_str boot_str ?_
      refine ⟨kpr_type, ?_⟩
      refine evs_cons ?_
      refine ev_loc (i := 9) rfl rfl rfl rfl ?_ -- k
      refine evs_nil ?_
      refine cal_str_int (log6 ⟨k, hk⟩) ?_
      rw [str6 ⟨k, hk⟩]
      refine evs_nil ?_
      have hel : (entName T k (hm k (p + 1))).length ≤ 3 := by unfold entName; split <;> exact lettersL_len _ _
      refine add_header' (A := c9 L tot (some (.ref la)) oct (some (.ref se)) mix (some (.ref pa)) (some (.ref ga)) (some (.str (tx (lettersL (hm k (p + 1)) (smL T))))) cho ++ X03 T S oa o0 o1 o2 o3 o4 o5 ga pa se la sm) (x := x) (d := d) (hl := hl) (tbl := tbl) (σ := σ) H (by show c.A.depth + 1 + 1 < _; omega)
        (by unfold entName; split; exact let_la _ _; exact let_sm _ _) (by omega) (fun y hy => by obtain rfl := List.mem_singleton.mp hy; show 32 ≤ 48 + k ∧ 48 + k ≠ 127; omega) (by simp) (by omega) fun tp => ?_
      -- break
      refine ex_brk ?_
      refine ex_nil (h _ _ ?_ ?_ _ _ (.of ⟨rfl, rfl, rfl, trivial⟩ (.refl _)))
      · rw [hent, List.map_append]; rfl
      · simp
    · refine ex_nil (ex_nil ⟨_, _, hwk _ _ ⟨[_, _], rfl⟩ ⟨rfl, rfl, rfl, rfl, rfl, trivial⟩, p + 1, _, ?_, by omega, ?_, Wk.rfl⟩)
      · rw [nA_drop, hjs]
      · rw [hf, hfind, if_neg (by rw [hb]; decide)]
  · rintro m0 T0 ⟨p, wor, hx, hp, hf, hw⟩
    have : 3 ≤ p := by
      have := congrArg List.length hx
      rw [nA_drop, nA_len, List.length_drop, ord_len ⟨k, hk⟩, List.length_nil] at this; omega
    have : p = 3 := by omega
    subst this
    rw [hf] at hent
    refine ex_nil (h wor tbl ?_ (by omega) _ _ ⟨fun i v hv => hw.ms i v ?_, hw.st⟩)
    · rw [hent]; exact (List.append_nil _).symm
    · exact SubMs.of (m' := [(2, .ref sm), (5, .ref x), (8, .ref oa)]) (m := [(2, .ref sm), (5, .ref x), (8, .ref oa), (9, .int (k : Int)), (10, .int (hm k 3 : Nat))]) ⟨rfl, rfl, rfl, trivial⟩ i v hv
  · exact ⟨0, wor, rfl, by decide, rfl, .of ⟨rfl, rfl, rfl, rfl, rfl, trivial⟩ (.refl _)⟩
end
end Mine
end

section
set_option maxRecDepth 100000
namespace Mine
section
variable {w : World} {S0 : Shared} {Kf : Frag} {c : Cx} {m : Ms} {σ : Sto} {K : Fl → Ms → Sto → Prop} {mg mb : Str → Option Value}
variable {pm cd : Value} {L : Addr} (FO : FnOk S0 aLaw (mkFd stLaw "law" pm cd .none .none) (bodyOf stLaw) (locals (scopeOf stLaw)))
theorem lawDD (H : Hc S0 Kf mg mb) (hroom : c.A.depth + 3 < recursionLimit) {T : Int} {S : List Nat} {sm la x d hl oa o0 o1 o2 o3 o4 o5 ga pa se : Addr} {tbl : List Row} {tot oct mix wor cho : Option V} (hS : 0 < S.length ∧ S.length ≤ 4)
    (htb : tbl.length ≤ 10) (hov : ∀ k p, k < 6 → p ≤ 3 → 0 ≤ overM T S (hm k p))
    (h : ∀ wor tbl', tbl'.map (·.2) = tbl.map (·.2) ++ (List.range 6).flatMap (entO T S) → tbl'.length ≤ tbl.length + 6 → Ex pw w S0 (lawC c m L FO) (lawB 17) [(2, .ref sm), (5, .ref x), (8, .ref oa)]
      (St03 L tot (some (.ref la)) oct (some (.ref se)) mix (some (.ref pa)) (some (.ref ga)) wor cho (X03 T S oa o0 o1 o2 o3 o4 o5 ga pa se la sm) x d hl tbl' σ) K) :
    Ex pw w S0 (lawC c m L FO) (lawB 16) [(2, .ref sm), (5, .ref x), (8, .ref oa)]
      (St03 L tot (some (.ref la)) oct (some (.ref se)) mix (some (.ref pa)) (some (.ref ga)) wor cho (X03 T S oa o0 o1 o2 o3 o4 o5 ga pa se la sm) x d hl tbl σ) K := by
  -- for k in range(6):
  refine ex_for ?_
  refine ev_call ?_ -- range(6)
  refine ev_blt H.H.B rfl rfl (by decide) H.H.no_range boot_range ?_
  refine ⟨kpr_type, ?_⟩
  refine evs_cons ?_
  refine ev_int ?_ -- 6
  refine evs_nil ?_
  refine cal_range1 fun rr => ?_
  refine ⟨_, _, itb_range (a := 0) (b := 6) (c := 1) (n := 6) (by decide) (by decide), ?_⟩
  rw [range_nV]
  refine Turns.perm (τ := St03 L tot (some (.ref la)) oct (some (.ref se)) mix (some (.ref pa)) (some (.ref ga)) wor cho (X03 T S oa o0 o1 o2 o3 o4 o5 ga pa se la sm) x d hl tbl ((rr, .rng 0 6 1) :: σ)) (mem_st (.head _)) ?_ ?_
  · unfold St03
    rw [← List.append_assoc, ← List.append_assoc]
    exact List.perm_middle.symm
  refine turns_gen (fun xs m0 T0 => ∃ (k : Nat) (wor : Option V) (tbl' : List Row), xs = (nV 6).drop k ∧ k ≤ 6 ∧ Wk m0 T0 [(2, .ref sm), (5, .ref x), (8, .ref oa)]
      (St03 L tot (some (.ref la)) oct (some (.ref se)) mix (some (.ref pa)) (some (.ref ga)) wor cho (X03 T S oa o0 o1 o2 o3 o4 o5 ga pa se la sm) x d hl tbl' ((rr, .rng 0 6 1) :: σ)) ∧
      tbl'.map (·.2) = tbl.map (·.2) ++ (List.range k).flatMap (entO T S) ∧ tbl'.length ≤ tbl.length + k) ?_ ?_ ?_ _ _ _ ?_
  · rintro xs m0 T0 ⟨k, wor, tbl', -, -, hw, -⟩
    refine mem_st (hw.st.subset ?_)
    exact List.mem_append_right _ (List.mem_append_right _ (.head _))
  · rintro y xs m0 T0 ⟨k, wor, tbl', hx, hk, hw, ht, hl2⟩ p
    obtain ⟨hlt, rfl, hxs⟩ := nV_drop hx
    refine asg_name (sto_loc (i := 9) rfl rfl ?_)
    refine Ex.wk (wk_cons hw 9 _) ?_
    refine turnD FO H hroom hlt hS (by omega) (fun p hp => hov k p hlt hp) fun wor' tbl2 ht2 hl3 m' σ' hw' => ?_
    refine ⟨_, _, Wk.rfl, k + 1, wor', tbl2, hxs, hlt, hw', ?_, by omega⟩
    rw [ht2, ht, List.range_succ, List.flatMap_append]; simp
  · rintro m0 T0 ⟨k, wor, tbl', hx, hk, hw, ht, hl2⟩
    have : k = 6 := by have := nV_nil hx; omega
    subst this
    refine Ex.wk ⟨hw.ms, ?_⟩ (h wor tbl' ht hl2)
    refine List.Sublist.trans ?_ hw.st
    exact .append_left (.append_left (.cons _ (.refl _)) _) _
  · exact ⟨0, wor, tbl, rfl, by decide, Wk.rfl, by simp, by omega⟩
end
end Mine
end

section
set_option maxRecDepth 100000
namespace Mine
def insideL (S : List Nat) (ch : Nat) : List Nat := S.filter fun s => (s &&& ch) == s
def com0 (S : List Nat) (ch : Nat) : Nat := if insideL S ch = [] then 0 else ch
def comN (S : List Nat) (ch : Nat) : Nat := (insideL S ch).foldl (fun a b => a &&& b) (com0 S ch)
def selL (T : Int) (ch : Nat) : List Nat := if ch % 2 = 1 then laL T else smL T
def firstL (k n : Nat) : List Nat := (ordL.getD k []).take n
def lastN (f : List Nat) : Nat := f.getD (f.length - 1) 0
def sumP (f : List Nat) : Nat := (f.map fun j => 2 ^ j).sum
def wlen (T : Int) (ch : Nat) : Nat := (lettersL ch (smL T)).length
def rOk (T : Int) (S : List Nat) (ch : Nat) (ks : List Nat) (k : Nat) : Bool := ks.contains k && (sumP (firstL k (wlen T ch)) == ch && bit (comN S ch) (lastN (firstL k (wlen T ch))))
def kV (ks : List Nat) : List V := ks.map fun k => V.str (tx [48 + k])
theorem natbeq (a b : Nat) : (((a : Nat) : Int) == ((b : Nat) : Int)) = (a == b) := by rw [Bool.eq_iff_iff, beq_iff_eq, beq_iff_eq]; omega
theorem kV_strs (ks : List Nat) : kV ks = (ks.map fun k => tx [48 + k]).map V.str := by unfold kV; rw [List.map_map]; rfl
theorem kV_has (ks : List Nat) (k : Nat) : (ks.map fun k => tx [48 + k]).contains (tx [48 + k]) = ks.contains k := by
  rw [Bool.eq_iff_iff, List.contains_iff_mem, List.contains_iff_mem, List.mem_map]
  constructor
  · rintro ⟨j, hj, e⟩
    have := tx_inj.mp e
    have : j = k := by simpa using this
    exact this ▸ hj
  · exact fun h => ⟨k, h, rfl⟩
section
variable {w : World} {S0 : Shared} {Kf : Frag} {c : Cx} {m : Ms} {σ : Sto} {K : Fl → Ms → Sto → Prop} {mg mb : Str → Option Value}
variable {pm cd : Value} {L : Addr} (FO : FnOk S0 aLaw (mkFd stLaw "law" pm cd .none .none) (bodyOf stLaw) (locals (scopeOf stLaw)))
def eB (k : Nat) : List Stmt := (bodyFor ((lawB 17).headD (.Pass ⟨0, 0, 0, 0⟩))).drop k
/-- the word, the common letters of the sets inside -/
theorem turnE1 (H : Hc S0 Kf mg mb) (hroom : c.A.depth + 3 < recursionLimit) (hu : (lawC c m L FO).A.units < cLine) {T : Int} {S : List Nat} {sm la x d hl oa o0 o1 o2 o3 o4 o5 ga pa se : Addr} {tbl : List Row} {tot oct mix wor : Option V} {p0 : Addr × O} {ch : Nat} (hS : 0 < S.length ∧ S.length ≤ 4)
    (h : Ex pw w S0 ((lawC c m L FO).push p0) (eB 4) [(2, .ref sm), (5, .ref x), (8, .ref oa), (15, .int (comN S ch : Nat))]
      (St03 L tot (some (.ref la)) oct (some (.ref se)) mix (some (.ref pa)) (some (.ref ga)) (some (.str (tx (lettersL ch (smL T))))) (some (.int (ch : Int))) (X03 T S oa o0 o1 o2 o3 o4 o5 ga pa se la sm) x d hl tbl σ) K) :
    Ex pw w S0 ((lawC c m L FO).push p0) (eB 0) [(2, .ref sm), (5, .ref x), (8, .ref oa)]
      (St03 L tot (some (.ref la)) oct (some (.ref se)) mix (some (.ref pa)) (some (.ref ga)) wor (some (.int (ch : Int))) (X03 T S oa o0 o1 o2 o3 o4 o5 ga pa se la sm) x d hl tbl σ) K := by
  -- word = _law_letters(choice, small)
  refine ex_assign ?_
  refine ev_call ?_ -- _law_letters(choice, small)
  refine ev_glob (V0 := .ref aLetters) H.H.B rfl rfl H.H.g_law_letters rfl ?_
  refine ⟨H.H.f_letters.kpr, ?_⟩
  refine evs_cons ?_
  refine ev_cell (Or.inl rfl) rfl rfl rfl (List.mem_of_getElem? (i := 0) rfl) ?_ -- choice
  refine evs_cons ?_
  refine ev_loc (i := 2) rfl rfl rfl rfl ?_ -- small
  refine evs_nil ?_
  refine letters (ls := smL T) H.H (by show c.A.depth + 1 < _; omega) rfl (List.mem_of_getElem? (i := 20) rfl) ?_
  refine sto_cell rfl rfl (.tail .head) ?_ -- word
  -- inside = [one for one in sets if one & choice == one]
  refine ex_assign_comp (cl := [("choice", L + 1 + 1 + 1 + 1 + 1 + 1 + 1 + 1 + 1)]) (names := [".0", "one"]) (nd := by decide +kernel) rfl (by decide +kernel) (by decide +kernel) rfl ?_ rfl
  refine ev_cell (Or.inl rfl) rfl rfl rfl (List.mem_of_getElem? (i := 5) rfl) ?_ -- sets
  refine ⟨_, _, itb_list (xs := nA S), mem_st (List.mem_of_getElem? (i := 18) rfl), fun L2 => ?_⟩
  refine ct_filterA (xs := S) (fun s : Nat => V.int (s : Int)) (fun s => (s &&& ch) == s) (fun s => V.int (s : Int)) (mem_st (List.mem_of_getElem? (i := 18) rfl)) (sz (by omega)) (fun s hs p q => ?_) ?_
  · refine asg_name (sto_loc (i := 1) rfl rfl ?_)
    refine et_cmp ?_ -- one & choice == one
    refine ev_bin ?_
    refine ev_loc (i := 1) rfl rfl rfl rfl ?_ -- one
    refine ev_cell (Or.inl rfl) rfl rfl rfl (List.mem_of_getElem? (i := 0) rfl) ?_ -- choice
    refine bin_and ?_ -- one & choice
    rw [band_nat]
    refine ev_loc (i := 1) rfl rfl rfl rfl ?_ -- one
    refine cmp_eq ?_
    refine tru_bool ?_
    refine ⟨natbeq _ _, .refl _, fun _ => ?_⟩
    refine ev_loc (i := 1) rfl rfl rfl rfl ?_ -- one
    exact ⟨rfl, .refl _⟩
  refine ⟨_, .refl _, fun ia q => ?_⟩
  rw [show ((S.filter fun s => (s &&& ch) == s).map fun s : Nat => V.int (s : Int)) = nA (insideL S ch) from rfl]
  have hil : (insideL S ch).length ≤ 4 := Nat.le_trans (List.length_filter_le _ _) hS.2
  refine sto_loc (i := 14) rfl rfl ?_ -- inside
  -- common = choice if inside != [] else 0
  refine ex_assign ?_
  refine Ev.mono (K := fun v σ' => v = .int (com0 S ch : Nat) ∧ ((ia, O.list (nA (insideL S ch))) :: St03 L tot (some (.ref la)) oct (some (.ref se)) mix (some (.ref pa)) (some (.ref ga)) (some (.str (tx (lettersL ch (smL T))))) (some (.int (ch : Int))) (X03 T S oa o0 o1 o2 o3 o4 o5 ga pa se la sm) x d hl tbl σ).Sublist σ') ?_ ?_
  · refine ev_if ?_
    refine et_cmp ?_ -- inside != []
    refine ev_loc (i := 14) rfl rfl rfl rfl ?_ -- inside
    refine ev_list ?_
    refine evs_nil ?_
    refine ⟨sz (by simp), fun el => ?_⟩
    refine cmp_lne V.int eqat_int (xs := (insideL S ch).map fun n : Nat => (n : Int)) (ys := []) (mem_st (by rw [← nA_iV]; exact .tail _ (.head _))) (mem_st (.head _)) hu ?_
    refine tru_bool ?_
    have hc : ((((insideL S ch).map fun n : Nat => (n : Int)) == []) = true) ↔ insideL S ch = [] := by
      rw [beq_iff_eq]; exact List.map_eq_nil_iff
    refine ⟨fun h1 => ?_, fun h1 => ?_⟩
    · refine ev_cell (Or.inl rfl) rfl rfl rfl (List.mem_of_getElem? (i := 2) rfl) ?_ -- choice
      refine ⟨?_, .cons _ (.refl _)⟩
      unfold com0
      rw [if_neg (fun e => by rw [hc.mpr e] at h1; exact absurd h1 (by decide))]
    · refine ev_int ?_ -- 0
      refine ⟨?_, .cons _ (.refl _)⟩
      unfold com0
      rw [if_pos (hc.mp (by simpa using h1))]; rfl
  rintro _ σ1 ⟨rfl, hsub⟩
  refine sto_loc (i := 15) rfl rfl ?_ -- common
  refine Ex.wk (m' := [(15, .int (com0 S ch : Nat)), (2, .ref sm), (5, .ref x), (8, .ref oa), (14, .ref ia)]) (.of ⟨rfl, rfl, rfl, rfl, rfl, trivial⟩ hsub) ?_
  -- for one in inside:
  refine ex_for ?_
  refine ev_loc (i := 14) rfl rfl rfl rfl ?_ -- inside
  refine ⟨_, _, itb_list (xs := nA (insideL S ch)), ?_⟩
  refine turns_gen (fun xs m0 T0 => ∃ p : Nat, xs = (nA (insideL S ch)).drop p ∧ Wk m0 T0 [(2, .ref sm), (5, .ref x), (8, .ref oa), (15, .int (((insideL S ch).take p).foldl (fun a b => a &&& b) (com0 S ch) : Nat))]
      ((ia, O.list (nA (insideL S ch))) :: St03 L tot (some (.ref la)) oct (some (.ref se)) mix (some (.ref pa)) (some (.ref ga)) (some (.str (tx (lettersL ch (smL T))))) (some (.int (ch : Int))) (X03 T S oa o0 o1 o2 o3 o4 o5 ga pa se la sm) x d hl tbl σ)) ?_ ?_ ?_ _ _ _ ?_
  · rintro xs m0 T0 ⟨p, -, hw⟩
    exact mem_st (hw.st.subset (.head _))
  · rintro y xs m0 T0 ⟨p, hx, hw⟩ p1
    rw [nA_drop] at hx
    cases hdk : (insideL S ch).drop p with
    | nil => rw [hdk] at hx; cases hx
    | cons j js =>
    obtain ⟨hlt, hget, hjs⟩ := drop_at hdk.symm
    rw [hdk] at hx
    obtain ⟨rfl, rfl⟩ : y = .int (j : Int) ∧ xs = nA js := by
      have := List.cons.inj hx; exact ⟨this.1, this.2⟩
    refine asg_name (sto_loc (i := 13) rfl rfl ?_)
    refine Ex.wk (wk_cons hw 13 _) ?_
    -- common = common & one
    refine ex_assign ?_
    refine ev_bin ?_
    refine ev_loc (i := 15) rfl rfl rfl rfl ?_ -- common
    refine ev_loc (i := 13) rfl rfl rfl rfl ?_ -- one
    refine bin_and ?_ -- common & one
    rw [band_nat]
    refine sto_loc (i := 15) rfl rfl ?_ -- common
    refine ex_nil ⟨_, _, Wk.rfl, p + 1, by rw [nA_drop, hjs], ?_⟩
    rw [List.take_add_one, hget, List.foldl_append]
    exact .of ⟨rfl, rfl, rfl, rfl, trivial⟩ (.refl _)
  · rintro m0 T0 ⟨p, hx, hw⟩
    have : (insideL S ch).length ≤ p := by
      have := congrArg List.length hx
      rw [nA_drop, nA_len, List.length_drop, List.length_nil] at this; omega
    rw [List.take_of_length_le this] at hw
    exact Ex.wk ⟨hw.ms, (List.sublist_cons_self _ _).trans hw.st⟩ h
  · exact ⟨0, rfl, .of ⟨rfl, rfl, rfl, rfl, trivial⟩ (.refl _)⟩
end
end Mine
end

section
set_option maxRecDepth 100000
namespace Mine
def rights (T : Int) (S : List Nat) (ch : Nat) (ks : List Nat) (n : Nat) : List Nat := (List.range n).filter (rOk T S ch ks)
theorem rights_succ (T : Int) (S : List Nat) (ch : Nat) (ks : List Nat) (n : Nat) : rights T S ch ks (n + 1) = rights T S ch ks n ++ if rOk T S ch ks n = true then [n] else [] := by
  unfold rights
  rw [List.range_succ, List.filter_append]
  congr 1
  by_cases h : rOk T S ch ks n = true
  · rw [if_pos h, List.filter_cons, if_pos h]; rfl
  · rw [if_neg h, List.filter_cons, if_neg h]; rfl
theorem rights_len (T : Int) (S : List Nat) (ch : Nat) (ks : List Nat) (n : Nat) : (rights T S ch ks n).length ≤ n := by
  unfold rights
  exact Nat.le_trans (List.length_filter_le _ _) (by simp)
section
variable {w : World} {S0 : Shared} {Kf : Frag} {c : Cx} {m : Ms} {σ : Sto} {K : Fl → Ms → Sto → Prop} {mg mb : Str → Option Value}
variable {pm cd : Value} {L : Addr} (FO : FnOk S0 aLaw (mkFd stLaw "law" pm cd .none .none) (bodyOf stLaw) (locals (scopeOf stLaw)))
/-- what is told under the word; the orders that are right -/
theorem turnE2 (H : Hc S0 Kf mg mb) (hroom : c.A.depth + 3 < recursionLimit) {T : Int} {S : List Nat} {sm la x d hl oa o0 o1 o2 o3 o4 o5 ga pa se : Addr} {tbl : List Row} {tot oct mix : Option V} {p0 : Addr × O} {ch : Nat} {ks : List Nat} (hch : 0 < ch)
    (htn : ∀ t ∈ tbl, Ltr t.2.1 ∧ t.2.1.length ≤ 100000) (hts : tbl.length ≤ 1000) (hgot : gotAll tbl (lettersL ch (selL T ch)) = ks.map fun k => [48 + k])
    (h : ∀ ta ra, Ex pw w S0 ((lawC c m L FO).push p0) (eB 7) [(2, .ref sm), (5, .ref x), (8, .ref oa), (15, .int (comN S ch : Nat)), (16, .ref ta), (17, .ref ra)]
      ((ra, .list (kV (rights T S ch ks 6))) :: (ta, .list (kV ks)) :: St03 L tot (some (.ref la)) oct (some (.ref se)) mix (some (.ref pa)) (some (.ref ga)) (some (.str (tx (lettersL ch (smL T))))) (some (.int (ch : Int))) (X03 T S oa o0 o1 o2 o3 o4 o5 ga pa se la sm) x d hl tbl σ) K) :
    Ex pw w S0 ((lawC c m L FO).push p0) (eB 4) [(2, .ref sm), (5, .ref x), (8, .ref oa), (15, .int (comN S ch : Nat))]
      (St03 L tot (some (.ref la)) oct (some (.ref se)) mix (some (.ref pa)) (some (.ref ga)) (some (.str (tx (lettersL ch (smL T))))) (some (.int (ch : Int))) (X03 T S oa o0 o1 o2 o3 o4 o5 ga pa se la sm) x d hl tbl σ) K := by
  -- told = table.get_all(_law_letters(choice, large if choice % 2 == 1 else small))
  refine ex_assign ?_
  refine ev_meth ?_
  refine ev_loc (i := 5) rfl rfl rfl rfl ?_ -- table
  refine mth_own (x := x) (mem_st (List.mem_of_getElem? (i := 21) rfl)) (mem_st (List.mem_of_getElem? (i := 22) rfl)) H.ck H.c_get_all H.t_get_all (by decide) ?_
  refine ⟨H.f_get_all.kpr, ?_⟩
  refine evs_cons ?_
  refine ev_call ?_ -- _law_letters
  refine ev_glob (V0 := .ref aLetters) H.H.B rfl rfl H.H.g_law_letters rfl ?_
  refine ⟨H.H.f_letters.kpr, ?_⟩
  refine evs_cons ?_
  refine ev_cell (Or.inl rfl) rfl rfl rfl (List.mem_of_getElem? (i := 0) rfl) ?_ -- choice
  refine evs_cons ?_
  refine Ev.mono (K := fun v σ' => ∃ r, v = .ref r ∧ (r, O.list (sgV (selL T ch))) ∈ σ' ∧ σ' = St03 L tot (some (.ref la)) oct (some (.ref se)) mix (some (.ref pa)) (some (.ref ga)) (some (.str (tx (lettersL ch (smL T))))) (some (.int (ch : Int))) (X03 T S oa o0 o1 o2 o3 o4 o5 ga pa se la sm) x d hl tbl σ) ?_ ?_
  · refine ev_if ?_
    refine et_cmp ?_ -- choice % 2 == 1
    refine ev_bin ?_
    refine ev_cell (Or.inl rfl) rfl rfl rfl (List.mem_of_getElem? (i := 0) rfl) ?_ -- choice
    refine ev_int ?_ -- 2
    refine bin_mod (by decide) ?_
    rw [show ((ch : Nat) : Int).fmod 2 = ((ch % 2 : Nat) : Int) from fmod_nat _ 2]
    refine ev_int ?_ -- 1
    refine cmp_eq ?_
    refine tru_bool ?_
    refine ⟨fun h1 => ?_, fun h1 => ?_⟩
    · have h1 : ch % 2 = 1 := by have := eq_of_beq h1; omega
      refine ev_cell (Or.inl rfl) rfl rfl rfl (List.mem_of_getElem? (i := 7) rfl) ?_ -- large
      refine ⟨la, rfl, ?_, rfl⟩
      unfold selL; rw [if_pos h1]; exact List.mem_of_getElem? (i := 19) rfl
    · have h1 : ¬ ch % 2 = 1 := by have := beq_eq_false_iff_ne.mp h1; omega
      refine ev_loc (i := 2) rfl rfl rfl rfl ?_ -- small
      refine ⟨sm, rfl, ?_, rfl⟩
      unfold selL; rw [if_neg h1]; exact List.mem_of_getElem? (i := 20) rfl
  rintro _ _ ⟨r, rfl, hr, rfl⟩
  refine evs_nil ?_
  refine letters (ls := selL T ch) H.H (by show c.A.depth + 1 < _; omega) (by unfold selL; split <;> rfl) hr ?_
  refine evs_nil ?_
  have hsl := lettersL_len ch (selL T ch)
  refine get_all (x := x) (d := d) (hl := hl) (tbl := tbl) H (by show c.A.depth + 1 + 1 < _; omega) (by unfold selL; split; exact let_la _ _; exact let_sm _ _) (by omega) htn (by omega) (fun p hp => List.mem_append_right _ (List.mem_append_left _ hp)) fun ta => ?_
  rw [hgot, show ((ks.map fun k => [48 + k]).map fun v => V.str (tx v)) = kV ks by unfold kV; rw [List.map_map]; rfl]
  refine sto_loc (i := 16) rfl rfl ?_ -- told
  -- right = []
  refine ex_assign ?_
  refine ev_list ?_
  refine evs_nil ?_
  refine ⟨sz (by simp), fun ra => ?_⟩
  refine sto_loc (i := 17) rfl rfl ?_ -- right
  -- for k in range(6):
  refine ex_for ?_
  refine ev_call ?_ -- range(6)
  refine ev_blt H.H.B rfl rfl (by decide) H.H.no_range boot_range ?_
  refine ⟨kpr_type, ?_⟩
  refine evs_cons ?_
  refine ev_int ?_ -- 6
  refine evs_nil ?_
  refine cal_range1 fun rr => ?_
  refine ⟨_, _, itb_range (a := 0) (b := 6) (c := 1) (n := 6) (by decide) (by decide), ?_⟩
  rw [range_nV]
  refine turns_gen (fun xs m0 T0 => ∃ k : Nat, xs = (nV 6).drop k ∧ k ≤ 6 ∧ Wk m0 T0 [(2, .ref sm), (5, .ref x), (8, .ref oa), (15, .int (comN S ch : Nat)), (16, .ref ta), (17, .ref ra)]
      ((rr, .rng 0 6 1) :: (ra, .list (kV (rights T S ch ks k))) :: (ta, .list (kV ks)) :: St03 L tot (some (.ref la)) oct (some (.ref se)) mix (some (.ref pa)) (some (.ref ga)) (some (.str (tx (lettersL ch (smL T))))) (some (.int (ch : Int))) (X03 T S oa o0 o1 o2 o3 o4 o5 ga pa se la sm) x d hl tbl σ)) ?_ ?_ ?_ _ _ _ ?_
  · rintro xs m0 T0 ⟨k, -, -, hw⟩
    exact mem_st (hw.st.subset (.head _))
  · rintro y xs m0 T0 ⟨k, hx, hk, hw⟩ p
    obtain ⟨hk6, rfl, hxs⟩ := nV_drop hx
    refine asg_name (sto_loc (i := 9) rfl rfl ?_)
    refine Ex.wk (wk_cons hw 9 _) ?_
    obtain ⟨r, hr1, hr2⟩ : ∃ r, ([.ref o0, .ref o1, .ref o2, .ref o3, .ref o4, .ref o5] : List V)[k]? = some (.ref r) ∧ (r, O.list (nA (ordL.getD k []))) ∈ X03 T S oa o0 o1 o2 o3 o4 o5 ga pa se la sm := by
      have : k = 0 ∨ k = 1 ∨ k = 2 ∨ k = 3 ∨ k = 4 ∨ k = 5 := by omega
      rcases this with rfl | rfl | rfl | rfl | rfl | rfl
      · exact ⟨o0, rfl, List.mem_of_getElem? (i := 6) rfl⟩
      · exact ⟨o1, rfl, List.mem_of_getElem? (i := 5) rfl⟩
      · exact ⟨o2, rfl, List.mem_of_getElem? (i := 4) rfl⟩
      · exact ⟨o3, rfl, List.mem_of_getElem? (i := 3) rfl⟩
      · exact ⟨o4, rfl, List.mem_of_getElem? (i := 2) rfl⟩
      · exact ⟨o5, rfl, List.mem_of_getElem? (i := 1) rfl⟩
    have hrm : (r, O.list (nA (ordL.getD k []))) ∈ St03 L tot (some (.ref la)) oct (some (.ref se)) mix (some (.ref pa)) (some (.ref ga)) (some (.str (tx (lettersL ch (smL T))))) (some (.int (ch : Int))) (X03 T S oa o0 o1 o2 o3 o4 o5 ga pa se la sm) x d hl tbl σ :=
      List.mem_append_left _ (List.mem_append_right _ hr2)
    -- first = orders[k][:len(word)]
    refine ex_assign ?_
    refine ev_lslice ?_
    refine ev_sub ?_
    refine ev_loc (i := 8) rfl rfl rfl rfl ?_ -- orders
    refine ev_loc (i := 9) rfl rfl rfl rfl ?_ -- k
    refine sub_list (xs := [.ref o0, .ref o1, .ref o2, .ref o3, .ref o4, .ref o5]) (x := .ref r) (List.mem_of_getElem? (i := 12) rfl) (by show -((6 : Nat) : Int) ≤ _; omega) (by omega) (by show (6 : Nat) < _; decide) (by rw [ix_nat]; exact hr1) ?_
    refine pt_none ?_
    refine pt_some ?_
    refine ev_call ?_ -- len(word)
    refine ev_blt H.H.B rfl rfl (by decide) H.H.no_len boot_len ?_
    refine ⟨kpr_blt, ?_⟩
    refine evs_cons ?_
    refine ev_cell (Or.inl rfl) rfl rfl rfl (List.mem_of_getElem? (i := 4) rfl) ?_ -- word
    refine evs_nil ?_
    have hwl := lettersL_len ch (smL T)
    refine cal_len_str (by rw [len_tx]; omega) ?_
    rw [len_tx, show (lettersL ch (smL T)).length = wlen T ch from rfl]
    refine .inl ⟨_, rfl, ?_⟩
    refine ⟨r, nA (ordL.getD k []), rfl, .tail _ (.tail _ (.tail _ hrm)), sz (by rw [nA_len, ord_len ⟨k, hk6⟩]; decide), fun fi => ?_⟩
    rw [cutT, nA_take, show (ordL.getD k []).take (wlen T ch) = firstL k (wlen T ch) from rfl]
    have hfl : (firstL k (wlen T ch)).length ≤ 3 := by unfold firstL; rw [List.length_take, ord_len ⟨k, hk6⟩]; omega
    have hf3 : ∀ j ∈ firstL k (wlen T ch), j < 3 := fun j hj => ord_lt ⟨k, hk6⟩ j (List.mem_of_mem_take hj)
    refine sto_loc (i := 18) rfl rfl ?_ -- first
    -- if str(k) in told and sum([1 << j for j in first]) == choice and common >> first[-1] & 1:
    refine ex_if ?_
    refine Et.mono (K := fun b σ' => b = rOk T S ch ks k ∧ ((rr, .rng 0 6 1) :: (ra, .list (kV (rights T S ch ks k))) :: (ta, .list (kV ks)) :: St03 L tot (some (.ref la)) oct (some (.ref se)) mix (some (.ref pa)) (some (.ref ga)) (some (.str (tx (lettersL ch (smL T))))) (some (.int (ch : Int))) (X03 T S oa o0 o1 o2 o3 o4 o5 ga pa se la sm) x d hl tbl σ).Sublist σ') ?_ ?_
    · refine et_and ?_
      refine et_cmp ?_ -- str(k) in told
      refine ev_call ?_ -- str(k)
      refine ev_blt H.H.B rfl rfl (by decide) H.H.no_str boot_str ?_
      refine ⟨kpr_type, ?_⟩
      refine evs_cons ?_
      refine ev_loc (i := 9) rfl rfl rfl rfl ?_ -- k
      refine evs_nil ?_
      refine cal_str_int (log6 ⟨k, hk6⟩) ?_
      rw [str6 ⟨k, hk6⟩]
      refine ev_loc (i := 16) rfl rfl rfl rfl ?_ -- told
      refine cmp_in_strs (ys := ks.map fun k => tx [48 + k]) (mem_st (by rw [← kV_strs]; exact List.mem_of_getElem? (i := 3) rfl)) ?_
      rw [kV_has]
      refine tru_bool ?_
      refine ⟨fun h1 => ?_, fun h1 => ⟨by unfold rOk; rw [h1]; rfl, .cons _ (.refl _)⟩⟩
      refine et_and ?_
      refine et_cmp ?_ -- sum([1 << j for j in first]) == choice
      refine ev_call ?_
      refine ev_blt H.H.B rfl rfl (by decide) H.H.no_sum boot_sum ?_
      refine ⟨kpr_blt, ?_⟩
      refine evs_cons ?_
      refine ev_comp (cl := []) (names := [".0", "j"]) (nd := by decide +kernel) rfl (by decide +kernel) (by decide +kernel) rfl ?_
      refine ev_loc (i := 18) rfl rfl rfl rfl ?_ -- first
      refine ⟨_, _, itb_list (xs := nA (firstL k (wlen T ch))), mem_st (.head _), fun L3 => ?_⟩
      refine ct_mapA (xs := firstL k (wlen T ch)) (fun j : Nat => V.int (j : Int)) (fun j => V.int ((2 ^ j : Nat) : Int)) (mem_st (.head _)) (sz (by omega)) (fun j hj p2 q2 => ?_) ?_
      · have hj3 := hf3 j hj
        refine asg_name (sto_loc (i := 1) rfl rfl ?_)
        refine ev_bin ?_
        refine ev_int ?_ -- 1
        refine ev_loc (i := 1) rfl rfl rfl rfl ?_ -- j
        refine bin_shl (by omega) (by omega) (by decide) ?_
        rw [shl_nat]
        exact ⟨rfl, .refl _⟩
      refine ⟨_, .refl _, fun sl => ?_⟩
      rw [show ((firstL k (wlen T ch)).map fun j => V.int ((2 ^ j : Nat) : Int)) = (((firstL k (wlen T ch)).map fun j => 2 ^ j).map fun n : Nat => (n : Int)).map V.int by rw [List.map_map, List.map_map]; rfl]
      refine evs_nil ?_
      refine cal_sum (mem_st (.head _)) ?_
      rw [cast_sum, show ((firstL k (wlen T ch)).map fun j => 2 ^ j).sum = sumP (firstL k (wlen T ch)) from rfl]
      refine ev_cell (Or.inl rfl) rfl rfl rfl (List.mem_of_getElem? (i := 5) rfl) ?_ -- choice
      refine cmp_eq ?_
      refine tru_bool ?_
      rw [natbeq]
      refine ⟨fun h2 => ?_, fun h2 => ⟨by unfold rOk; rw [h1, h2]; rfl, .cons _ (.cons _ (.refl _))⟩⟩
      have hne : 0 < (firstL k (wlen T ch)).length := by
        rcases Nat.eq_zero_or_pos (firstL k (wlen T ch)).length with h0 | h0
        · rw [List.length_eq_zero_iff.mp h0] at h2
          have := eq_of_beq h2
          simp [sumP] at this; omega
        · exact h0
      refine et_and ?_
      refine et_plain ?_ -- common >> first[-1] & 1
      refine ev_bin ?_
      refine ev_bin ?_
      refine ev_loc (i := 15) rfl rfl rfl rfl ?_ -- common
      refine ev_sub ?_
      refine ev_loc (i := 18) rfl rfl rfl rfl ?_ -- first
      refine ev_neg ?_
      refine ev_int ?_ -- 1
      refine ⟨_, rfl, ?_⟩
      refine sub_list (xs := nA (firstL k (wlen T ch))) (x := .int (lastN (firstL k (wlen T ch)) : Nat)) (.tail _ (.head _)) (by rw [nA_len]; omega) (by decide) (by rw [nA_len]; omega) (by
        rw [nA_len, show ix (firstL k (wlen T ch)).length (-1) = (firstL k (wlen T ch)).length - 1 by unfold ix; rw [if_pos (by decide)]; omega]
        exact nA_get _ _ _ (getD_get (by omega))) ?_
      refine bin_shr (by omega) ?_
      rw [shr_nat]
      refine ev_int ?_ -- 1
      refine bin_and ?_
      rw [band1]
      refine et_bit ?_
      refine ⟨fun h3 => ?_, fun h3 => ⟨by unfold rOk; rw [h1, h2, h3]; rfl, .cons _ (.cons _ (.refl _))⟩⟩
      refine et_and_nil ?_
      exact ⟨by unfold rOk; rw [h1, h2, h3]; rfl, .cons _ (.cons _ (.refl _))⟩
    rintro b σ1 ⟨rfl, hsub⟩
    have hrl := rights_len T S ch ks k
    refine ⟨fun hb => ?_, fun hb => ?_⟩
    · refine Ex.wk (m' := [(9, .int (k : Int)), (2, .ref sm), (5, .ref x), (8, .ref oa), (15, .int (comN S ch : Nat)), (16, .ref ta), (17, .ref ra)]) (.of ⟨rfl, rfl, rfl, rfl, rfl, rfl, rfl, trivial⟩ hsub) ?_
      -- right.append(str(k))
      refine ex_expr ?_
      refine ev_meth ?_ -- right.append(str(k))
      refine ev_loc (i := 17) rfl rfl rfl rfl ?_ -- right
      refine mth_append (mem_st (.tail _ (.head _))) ?_
      refine ⟨kpr_blt, ?_⟩
      refine evs_cons ?_
      refine ev_call ?_ -- str(k)
      refine ev_blt H.H.B rfl rfl (by decide) H.H.no_str boot_str ?_
      refine ⟨kpr_type, ?_⟩
      refine evs_cons ?_
      refine ev_loc (i := 9) rfl rfl rfl rfl ?_ -- k
      refine evs_nil ?_
      refine cal_str_int (log6 ⟨k, hk6⟩) ?_
      rw [str6 ⟨k, hk6⟩]
      refine evs_nil ?_
      refine cal_append (.tail .head) (sz (by unfold kV; rw [List.length_map]; omega)) ?_
      refine ex_nil (ex_nil ⟨_, _, Wk.rfl, k + 1, hxs, hk6, ?_⟩)
      rw [rights_succ, if_pos hb, show kV (rights T S ch ks k ++ [k]) = kV (rights T S ch ks k) ++ [V.str (tx [48 + k])] by simp [kV]]
      exact .of ⟨rfl, rfl, rfl, rfl, rfl, rfl, trivial⟩ (.refl _)
    · refine ex_nil (ex_nil ⟨_, _, Wk.rfl, k + 1, hxs, hk6, ?_⟩)
      rw [rights_succ, if_neg (by rw [hb]; decide), List.append_nil]
      exact .of ⟨rfl, rfl, rfl, rfl, rfl, rfl, trivial⟩ hsub
  · rintro m0 T0 ⟨k, hx, hk, hw⟩
    have : k = 6 := by have := nV_nil hx; omega
    subst this
    exact Ex.wk ⟨hw.ms, (List.sublist_cons_self _ _).trans hw.st⟩ (h ta ra)
  · exact ⟨0, rfl, by decide, .of ⟨rfl, rfl, rfl, rfl, rfl, rfl, trivial⟩ (.refl _)⟩
end
end Mine
end

section
set_option maxRecDepth 100000
namespace Mine
def dueE (S : List Nat) (ch : Nat) : Int := apartC (S.getD (ch % S.length) 0) ch (five2 (ch % S.length))
section
variable {w : World} {S0 : Shared} {Kf : Frag} {c : Cx} {m : Ms} {σ : Sto} {K : Fl → Ms → Sto → Prop} {mg mb : Str → Option Value}
variable {pm cd : Value} {L : Addr} (FO : FnOk S0 aLaw (mkFd stLaw "law" pm cd .none .none) (bodyOf stLaw) (locals (scopeOf stLaw)))
theorem turnE3 (H : Hc S0 Kf mg mb) (hroom : c.A.depth + 3 < recursionLimit) (hu : (lawC c m L FO).A.units < cLine) {T : Int} {S : List Nat} {sm la x d hl oa o0 o1 o2 o3 o4 o5 ga pa se ta ra : Addr} {tbl : List Row} {tot oct mix : Option V} {p0 : Addr × O} {ch : Nat} {ks : List Nat} (hS : 0 < S.length ∧ S.length ≤ 4)
    (hks : ks.length ≤ 6) (hR : rights T S ch ks 6 = ks) (hw1 : 1 ≤ wlen T ch) (hC : ks.length = (lettersL (comN S ch) (smL T)).length * [2, 1, 2].getD (wlen T ch - 1) 0)
    (hL : levF (partL T S (ch % S.length)) (lettersL ch (smL T)) (dueE S ch + ((ch / 4 : Nat) : Int)) = dueE S ch)
    (h : ∀ m' σ', Wk m' σ' [(2, .ref sm), (5, .ref x), (8, .ref oa)] (St03 L tot (some (.ref la)) oct (some (.ref se)) mix (some (.ref pa)) (some (.ref ga)) (some (.str (tx (lettersL ch (smL T))))) (some (.int (ch : Int))) (X03 T S oa o0 o1 o2 o3 o4 o5 ga pa se la sm) x d hl tbl σ) → K .next m' σ') :
    Ex pw w S0 ((lawC c m L FO).push p0) (eB 7) [(2, .ref sm), (5, .ref x), (8, .ref oa), (15, .int (comN S ch : Nat)), (16, .ref ta), (17, .ref ra)]
      ((ra, .list (kV (rights T S ch ks 6))) :: (ta, .list (kV ks)) :: St03 L tot (some (.ref la)) oct (some (.ref se)) mix (some (.ref pa)) (some (.ref ga)) (some (.str (tx (lettersL ch (smL T))))) (some (.int (ch : Int))) (X03 T S oa o0 o1 o2 o3 o4 o5 ga pa se la sm) x d hl tbl σ) K := by
  rw [hR]
  have hwl := lettersL_len ch (smL T)
  have hcl := lettersL_len (comN S ch) (smL T)
  have hw3 : wlen T ch ≤ 3 := hwl
  -- if told != right or len(told) != len(_law_letters(common, small)) * [2, 1, 2][len(word) - 1]:
  refine ex_if ?_
  refine et_or ?_
  refine et_cmp ?_ -- told != right
  refine ev_loc (i := 16) rfl rfl rfl rfl ?_ -- told
  refine ev_loc (i := 17) rfl rfl rfl rfl ?_ -- right
  refine cmp_lne V.str eqat_str (xs := ks.map fun k => tx [48 + k]) (ys := ks.map fun k => tx [48 + k]) (mem_st (by rw [← kV_strs]; exact .tail _ (.head _))) (mem_st (by rw [← kV_strs]; exact .head _)) hu ?_
  rw [beq_self_eq_true]
  refine tru_bool ?_
  refine ⟨fun _ => ?_, fun e => (nomatch e)⟩
  refine et_or ?_
  refine et_cmp ?_
  refine ev_call ?_ -- len(told)
  refine ev_blt H.H.B rfl rfl (by decide) H.H.no_len boot_len ?_
  refine ⟨kpr_blt, ?_⟩
  refine evs_cons ?_
  refine ev_loc (i := 16) rfl rfl rfl rfl ?_ -- told
  refine evs_nil ?_
  refine cal_len_list (xs := kV ks) (mem_st (.tail _ (.head _))) (by unfold kV; rw [List.length_map]; omega) ?_
  rw [show (kV ks).length = ks.length by unfold kV; rw [List.length_map]]
  refine ev_bin ?_
  refine ev_call ?_ -- len(_law_letters(common, small))
  refine ev_blt H.H.B rfl rfl (by decide) H.H.no_len boot_len ?_
  refine ⟨kpr_blt, ?_⟩
  refine evs_cons ?_
  refine ev_call ?_ -- _law_letters(common, small)
  refine ev_glob (V0 := .ref aLetters) H.H.B rfl rfl H.H.g_law_letters rfl ?_
  refine ⟨H.H.f_letters.kpr, ?_⟩
  refine evs_cons ?_
  refine ev_loc (i := 15) rfl rfl rfl rfl ?_ -- common
  refine evs_cons ?_
  refine ev_loc (i := 2) rfl rfl rfl rfl ?_ -- small
  refine evs_nil ?_
  refine letters (ls := smL T) H.H (by show c.A.depth + 1 < _; omega) rfl (List.mem_of_getElem? (i := 22) rfl) ?_
  refine evs_nil ?_
  refine cal_len_str (by rw [len_tx]; omega) ?_
  rw [len_tx]
  refine ev_sub ?_
  refine ev_list ?_
  refine evs_cons ?_
  refine ev_int ?_ -- 2
  refine evs_cons ?_
  refine ev_int ?_ -- 1
  refine evs_cons ?_
  refine ev_int ?_ -- 2
  refine evs_nil ?_
  refine ⟨sz (by simp), fun tl => ?_⟩
  refine ev_bin ?_
  refine ev_call ?_ -- len(word)
  refine ev_blt H.H.B rfl rfl (by decide) H.H.no_len boot_len ?_
  refine ⟨kpr_blt, ?_⟩
  refine evs_cons ?_
  refine ev_cell (Or.inl rfl) rfl rfl rfl (List.mem_of_getElem? (i := 4) rfl) ?_ -- word
  refine evs_nil ?_
  refine cal_len_str (by rw [len_tx]; omega) ?_
  rw [len_tx, show (lettersL ch (smL T)).length = wlen T ch from rfl]
  refine ev_int ?_ -- 1
  refine bin_sub ?_ -- len(word) - 1
  rw [show ((wlen T ch : Nat) : Int) - 1 = ((wlen T ch - 1 : Nat) : Int) by omega]
  refine sub_list (xs := [V.int 2, V.int 1, V.int 2]) (x := .int ([2, 1, 2].getD (wlen T ch - 1) 0 : Nat)) (.head _) (by show -((3 : Nat) : Int) ≤ _; omega) (by omega) (by simp) (by
    rw [ix_nat]
    have : wlen T ch - 1 = 0 ∨ wlen T ch - 1 = 1 ∨ wlen T ch - 1 = 2 := by omega
    rcases this with e | e | e <;> rw [e] <;> rfl) ?_
  refine bin_mul (IntMulOk.of_left (by
    have key : ∀ s : Fin 4, Builtin.Int.intBits ((s.1 : Nat) : Int) ≤ 64 := by decide +kernel
    exact key ⟨_, by omega⟩)) ?_
  rw [← Int.natCast_mul, ← hC]
  refine cmp_ne ?_
  refine tru_bool ?_
  refine ⟨fun _ => ?_, fun e => by simp at e⟩
  refine et_or_nil ?_
  refine ⟨fun e => (nomatch e), fun _ => ?_⟩
  refine ex_nil ?_
  refine Ex.wk (m' := [(2, .ref sm), (5, .ref x), (8, .ref oa)]) (σ' := St03 L tot (some (.ref la)) oct (some (.ref se)) mix (some (.ref pa)) (some (.ref ga)) (some (.str (tx (lettersL ch (smL T))))) (some (.int (ch : Int))) (X03 T S oa o0 o1 o2 o3 o4 o5 ga pa se la sm) x d hl tbl σ) (.of ⟨rfl, rfl, rfl, trivial⟩ (.cons _ (.cons _ (.cons _ (.refl _))))) ?_
  -- i = choice % len(sets)
  refine ex_assign ?_
  refine ev_bin ?_
  refine ev_cell (Or.inl rfl) rfl rfl rfl (List.mem_of_getElem? (i := 0) rfl) ?_ -- choice
  refine ev_call ?_ -- len(sets)
  refine ev_blt H.H.B rfl rfl (by decide) H.H.no_len boot_len ?_
  refine ⟨kpr_blt, ?_⟩
  refine evs_cons ?_
  refine ev_cell (Or.inl rfl) rfl rfl rfl (List.mem_of_getElem? (i := 5) rfl) ?_ -- sets
  refine evs_nil ?_
  refine cal_len_list (xs := nA S) (mem_st (List.mem_of_getElem? (i := 18) rfl)) (by rw [nA_len]; omega) ?_
  rw [nA_len]
  refine bin_mod (by omega) ?_
  rw [fmod_nat]
  have hi : ch % S.length < S.length := Nat.mod_lt _ hS.1
  unfold dueE at hL
  generalize ch % S.length = i at hi hL ⊢
  have hpl : (((List.range S.length).map (partL T S)).map fun l => V.str (tx l))[i]? = some (.str (tx (partL T S i))) := by rw [List.getElem?_map, List.getElem?_map, List.getElem?_range hi]; rfl
  refine sto_loc (i := 7) rfl rfl ?_ -- i
  -- due = _law_apart(sets[i], choice, [5, 2][i % 2])
  refine ex_assign ?_
  refine ev_call ?_
  refine ev_glob (V0 := .ref aApart) H.H.B rfl rfl H.H.g_law_apart rfl ?_
  refine ⟨H.H.f_apart.kpr, ?_⟩
  refine evs_cons ?_
  refine ev_sub ?_
  refine ev_cell (Or.inl rfl) rfl rfl rfl (List.mem_of_getElem? (i := 5) rfl) ?_ -- sets
  refine ev_loc (i := 7) rfl rfl rfl rfl ?_ -- i
  refine sub_list (xs := nA S) (x := .int (S.getD i 0 : Nat)) (List.mem_of_getElem? (i := 18) rfl) (by rw [nA_len]; omega) (by omega) (by rw [nA_len]; omega) (by rw [ix_nat]; exact nA_get _ _ _ (getD_get hi)) ?_
  refine evs_cons ?_
  refine ev_cell (Or.inl rfl) rfl rfl rfl (List.mem_of_getElem? (i := 0) rfl) ?_ -- choice
  refine evs_cons ?_
  refine ev_sub ?_
  refine ev_list ?_
  refine evs_cons ?_
  refine ev_int ?_ -- 5
  refine evs_cons ?_
  refine ev_int ?_ -- 2
  refine evs_nil ?_
  refine ⟨sz (by simp), fun fv => ?_⟩
  refine ev_bin ?_
  refine ev_loc (i := 7) rfl rfl rfl rfl ?_ -- i
  refine ev_int ?_ -- 2
  refine bin_mod (by decide) ?_
  rw [show ((i : Nat) : Int).fmod 2 = ((i % 2 : Nat) : Int) from fmod_nat _ 2]
  refine sub_list (xs := [V.int 5, V.int 2]) (x := .int (five2 i : Nat)) (.head _) (by simp; omega) (by omega) (by simp) (by
    rw [ix_nat]; unfold five2
    rcases Nat.mod_two_eq_zero_or_one i with h2 | h2 <;> rw [h2] <;> rfl) ?_
  refine evs_nil ?_
  refine apart H.H (by show c.A.depth + 1 < _; omega) ?_
  generalize apartC (S.getD i 0) ch (five2 i) = due at hL ⊢
  refine sto_loc (i := 19) rfl rfl ?_ -- due
  -- if _levenshtein_distance(parts[i], word, due + choice // 4) != due:
  refine ex_if ?_
  refine et_cmp ?_
  refine ev_call ?_
  refine ev_glob (V0 := .ref aLev) H.H.B rfl rfl H.H.g_levenshtein_distance rfl ?_
  refine ⟨H.H.f_lev.kpr, ?_⟩
  refine evs_cons ?_
  refine ev_sub ?_
  refine ev_cell (Or.inl rfl) rfl rfl rfl (List.mem_of_getElem? (i := 4) rfl) ?_ -- parts
  refine ev_loc (i := 7) rfl rfl rfl rfl ?_ -- i
  refine sub_list (xs := ((List.range S.length).map (partL T S)).map fun l => V.str (tx l)) (List.mem_of_getElem? (i := 18) rfl) (by rw [List.length_map, List.length_map, List.length_range]; omega) (by omega) (by rw [List.length_map, List.length_map, List.length_range]; omega) (by rw [ix_nat]; exact hpl) ?_
  refine evs_cons ?_
  refine ev_cell (Or.inl rfl) rfl rfl rfl (List.mem_of_getElem? (i := 2) rfl) ?_ -- word
  refine evs_cons ?_
  refine ev_bin ?_
  refine ev_loc (i := 19) rfl rfl rfl rfl ?_ -- due
  refine ev_bin ?_
  refine ev_cell (Or.inl rfl) rfl rfl rfl (List.mem_of_getElem? (i := 1) rfl) ?_ -- choice
  refine ev_int ?_ -- 4
  refine bin_div (by decide) (PyProof.noPylong_small (by decide)) ?_
  rw [show ((ch : Nat) : Int).fdiv 4 = ((ch / 4 : Nat) : Int) from fdiv_nat _ 4]
  refine bin_add ?_ -- due + choice // 4
  refine evs_nil ?_
  have := lettersL_len (S.getD i 0) (mixL T (i % 2))
  refine lev H.H (by show c.A.depth + 1 + 1 < _; omega) (by unfold partL; omega) (by omega) (let_mix _ _ _).okc (let_sm _ _).okc ?_
  rw [hL]
  refine ev_loc (i := 19) rfl rfl rfl rfl ?_ -- due
  refine cmp_ne ?_
  refine tru_bool ?_
  refine ⟨fun e => by simp at e, fun _ => ?_⟩
  exact ex_nil (ex_nil (h _ _ (.of ⟨rfl, rfl, rfl, trivial⟩ (.cons _ (.refl _)))))
end
end Mine
end

section
set_option maxRecDepth 100000
namespace Mine
structure Due (T : Int) (S : List Nat) (tbl : List Row) (ch : Nat) (ks : List Nat) : Prop where
  got : gotAll tbl (lettersL ch (selL T ch)) = ks.map fun k => [48 + k]
  len : ks.length ≤ 6
  right : rights T S ch ks 6 = ks
  word : 1 ≤ wlen T ch
  count : ks.length = (lettersL (comN S ch) (smL T)).length * [2, 1, 2].getD (wlen T ch - 1) 0
  lev : levF (partL T S (ch % S.length)) (lettersL ch (smL T)) (dueE S ch + ((ch / 4 : Nat) : Int)) = dueE S ch
def oneV (n : Nat) : List V := (List.range n).map fun j : Nat => V.int ((j + 1 : Nat) : Int)
theorem range_oneV (n : Nat) : (List.range n).map (fun j : Nat => V.int (1 + (j : Int) * 1)) = oneV n := by
  apply List.map_congr_left; intro j _; show V.int _ = V.int _; congr 1; omega
section
variable {w : World} {S0 : Shared} {Kf : Frag} {c : Cx} {m : Ms} {σ : Sto} {K : Fl → Ms → Sto → Prop} {mg mb : Str → Option Value}
variable {pm cd : Value} {L : Addr} (FO : FnOk S0 aLaw (mkFd stLaw "law" pm cd .none .none) (bodyOf stLaw) (locals (scopeOf stLaw)))
theorem lawEE (H : Hc S0 Kf mg mb) (hroom : c.A.depth + 3 < recursionLimit) (hu : (lawC c m L FO).A.units < cLine) {T : Int} {S : List Nat} {sm la x d hl oa o0 o1 o2 o3 o4 o5 ga pa se : Addr} {tbl : List Row} {tot oct mix wor cho : Option V} (hS : 0 < S.length ∧ S.length ≤ 4)
    (htn : ∀ t ∈ tbl, Ltr t.2.1 ∧ t.2.1.length ≤ 100000) (hts : tbl.length ≤ 1000) (hd : ∀ ch, 1 ≤ ch → ch ≤ 7 → ∃ ks, Due T S tbl ch ks)
    (h : ∀ m' σ', K (.ret (.bool true)) m' σ') :
    Ex pw w S0 (lawC c m L FO) (lawB 17) [(2, .ref sm), (5, .ref x), (8, .ref oa)]
      (St03 L tot (some (.ref la)) oct (some (.ref se)) mix (some (.ref pa)) (some (.ref ga)) wor cho (X03 T S oa o0 o1 o2 o3 o4 o5 ga pa se la sm) x d hl tbl σ) K := by
  -- for choice in range(1, 8):
  refine ex_for ?_
  refine ev_call ?_ -- range(1, 8)
  refine ev_blt H.H.B rfl rfl (by decide) H.H.no_range boot_range ?_
  refine ⟨kpr_type, ?_⟩
  refine evs_cons ?_
  refine ev_int ?_ -- 1
  refine evs_cons ?_
  refine ev_int ?_ -- 8
  refine evs_nil ?_
  refine cal_range2 fun rr => ?_
  refine ⟨_, _, itb_range (a := 1) (b := 8) (c := 1) (n := 7) (by decide) (by decide), ?_⟩
  rw [range_oneV]
  refine Turns.perm (τ := St03 L tot (some (.ref la)) oct (some (.ref se)) mix (some (.ref pa)) (some (.ref ga)) wor cho (X03 T S oa o0 o1 o2 o3 o4 o5 ga pa se la sm) x d hl tbl ((rr, .rng 1 8 1) :: σ)) (mem_st (.head _)) ?_ ?_
  · unfold St03
    rw [← List.append_assoc, ← List.append_assoc]
    exact List.perm_middle.symm
  refine turns_gen (fun xs m0 T0 => ∃ (j : Nat) (wor cho : Option V), xs = (oneV 7).drop j ∧ Wk m0 T0 [(2, .ref sm), (5, .ref x), (8, .ref oa)]
      (St03 L tot (some (.ref la)) oct (some (.ref se)) mix (some (.ref pa)) (some (.ref ga)) wor cho (X03 T S oa o0 o1 o2 o3 o4 o5 ga pa se la sm) x d hl tbl ((rr, .rng 1 8 1) :: σ))) ?_ ?_ ?_ _ _ _ ?_
  · rintro xs m0 T0 ⟨j, wor, cho, -, hw⟩
    refine mem_st (hw.st.subset ?_)
    exact List.mem_append_right _ (List.mem_append_right _ (.head _))
  · rintro y xs m0 T0 ⟨j, wor, cho, hx, hw⟩ p
    obtain ⟨hlt, hget, hxs⟩ := drop_at hx
    have hj : j < 7 := by simpa [oneV] using hlt
    obtain rfl : y = .int ((j + 1 : Nat) : Int) := by
      unfold oneV at hget
      rw [List.getElem?_map, List.getElem?_range hj] at hget
      exact (Option.some.inj hget).symm
    obtain ⟨ks, D⟩ := hd (j + 1) (by omega) (by omega)
    intro v hv
    refine Tr.weak (Wk.imp (c := _) hw) ?_
    revert v hv
    show Asg pw w S0 _ _ _ _ _ _
    refine asg_name (sto_cell rfl rfl .head ?_)
    refine turnE1 FO H hroom hu hS ?_
    refine turnE2 FO H hroom (by omega) htn hts D.got fun ta ra => ?_
    refine turnE3 FO H hroom hu hS D.len D.right D.word D.count D.lev fun m' σ' hw' => ?_
    exact ⟨_, _, Wk.rfl, j + 1, _, _, hxs, hw'⟩
  · rintro m0 T0 ⟨j, wor, cho, hx, hw⟩
    -- return True
    refine ex_ret ?_
    refine ev_bool ?_
    exact h _ _
  · exact ⟨0, wor, cho, rfl, Wk.rfl⟩
end
end Mine
end

section
set_option maxRecDepth 100000
namespace Mine
def smQ (q : Nat) : List Nat := [97 + q, 98 + q, 99 + q]
def laQ (q : Nat) : List Nat := [65 + q, 66 + q, 67 + q]
def mixQ (q p : Nat) : List Nat := if p = 0 then [65 + q, 98 + q, 67 + q] else [97 + q, 66 + q, 99 + q]
def f2 (p : Nat) : Nat := if p = 0 then 5 else 2
def overQ (q s mk p : Nat) : Int := overC (lettersL mk (smQ q)) (lettersL s (mixQ q p)) (lettersL (s &&& f2 p) (laQ q)).length
theorem over_fact : ∀ (q : Fin 24) (s : Fin 7) (mk : Fin 8) (p : Fin 2), 0 ≤ overQ q.1 (s.1 + 1) mk.1 p.1 ∧ (overQ q.1 (s.1 + 1) mk.1 p.1 == 0) = (((s.1 + 1) &&& mk.1) == s.1 + 1) := by decide +kernel
theorem lev_fact : ∀ (q : Fin 24) (s : Fin 7) (ch : Fin 7) (p : Fin 2), levF (lettersL (s.1 + 1) (mixQ q.1 p.1)) (lettersL (ch.1 + 1) (smQ q.1)) (apartC (s.1 + 1) (ch.1 + 1) (f2 p.1) + (((ch.1 + 1) / 4 : Nat) : Int)) = apartC (s.1 + 1) (ch.1 + 1) (f2 p.1) := by decide +kernel
def pw3 (c : Nat) : Nat := ((List.range 3).filter (bit c)).length
theorem let_len (c : Nat) (ls : List Nat) : (lettersL c ls).length = pw3 c := by unfold lettersL pw3; rw [List.length_map]
theorem lower_fact : ∀ (q : Fin 24) (a b : Fin 8), ((lettersL a.1 (smQ q.1)).map lo1 == lettersL b.1 (smQ q.1)) = (a.1 == b.1) ∧ (lettersL a.1 (laQ q.1)).map lo1 = lettersL a.1 (smQ q.1) ∧ (lettersL a.1 (smQ q.1)).map lo1 = lettersL a.1 (smQ q.1) := by decide +kernel
/-- the family of the sets -/
def anyS (S : List Nat) (mk : Nat) : Bool := S.any fun s => (s &&& mk) == s
def mE (S : List Nat) (k : Nat) : Nat := hm k (([1, 2, 3].find? fun p => anyS S (hm k p)).getD 3)
def famU (S : List Nat) : List Nat := [1, 2, 3, 4, 5, 6, 7].filter fun s => S.contains s
def chk (U : List Nat) : Bool := U.isEmpty || (List.range 7).all fun c => ((List.range 6).all fun k => !(mE U k == c + 1) || (sumP (firstL k (pw3 (c + 1))) == c + 1 && bit (comN U (c + 1)) (lastN (firstL k (pw3 (c + 1)))))) &&
  ((List.range 6).filter fun k => mE U k == c + 1).length == pw3 (comN U (c + 1)) * [2, 1, 2].getD (pw3 (c + 1) - 1) 0
theorem fam_fact : ∀ b1 b2 b3 b4 b5 b6 b7 : Bool, chk ([1, 2, 3, 4, 5, 6, 7].filter fun s => [false, b1, b2, b3, b4, b5, b6, b7].getD s false) = true := by decide +kernel
theorem fam_chk (S : List Nat) : chk (famU S) = true := by
  have := fam_fact (S.contains 1) (S.contains 2) (S.contains 3) (S.contains 4) (S.contains 5) (S.contains 6) (S.contains 7)
  rw [show famU S = [1, 2, 3, 4, 5, 6, 7].filter fun s => [false, S.contains 1, S.contains 2, S.contains 3, S.contains 4, S.contains 5, S.contains 6, S.contains 7].getD s false from ?_]
  · exact this
  · refine List.filter_congr fun s hs => ?_
    simp only [List.mem_cons, List.not_mem_nil, or_false] at hs
    rcases hs with rfl | rfl | rfl | rfl | rfl | rfl | rfl <;> rfl
def OkS (S : List Nat) : Prop := ∀ s ∈ S, 1 ≤ s ∧ s ≤ 7
theorem fam_mem {S : List Nat} (h : OkS S) (s : Nat) : s ∈ famU S ↔ s ∈ S := by
  unfold famU
  rw [List.mem_filter, List.contains_iff_mem]
  refine ⟨fun x => x.2, fun x => ⟨?_, x⟩⟩
  have := h s x
  simp only [List.mem_cons, List.not_mem_nil, or_false]; omega
theorem anyS_fam {S : List Nat} (h : OkS S) (mk : Nat) : anyS (famU S) mk = anyS S mk := by
  unfold anyS
  rw [Bool.eq_iff_iff, List.any_eq_true, List.any_eq_true]
  exact ⟨fun ⟨s, a, b⟩ => ⟨s, (fam_mem h s).mp a, b⟩, fun ⟨s, a, b⟩ => ⟨s, (fam_mem h s).mpr a, b⟩⟩
theorem mE_fam {S : List Nat} (h : OkS S) (k : Nat) : mE (famU S) k = mE S k := by
  unfold mE
  rw [show (fun p => anyS (famU S) (hm k p)) = fun p => anyS S (hm k p) from funext fun p => anyS_fam h _]
theorem fold_and (l : List Nat) : ∀ (a i : Nat), (l.foldl (fun a b => a &&& b) a).testBit i = (a.testBit i && l.all fun s => s.testBit i) := by
  induction l with
  | nil => intro a i; simp
  | cons s l ih => intro a i; rw [List.foldl_cons, ih, Nat.testBit_and, List.all_cons, Bool.and_assoc]
theorem com_fam {S : List Nat} (h : OkS S) (ch : Nat) : comN (famU S) ch = comN S ch := by
  have hm : ∀ s, s ∈ insideL (famU S) ch ↔ s ∈ insideL S ch := fun s => by
    unfold insideL
    rw [List.mem_filter, List.mem_filter, fam_mem h]
  have h0 : com0 (famU S) ch = com0 S ch := by
    unfold com0
    have : insideL (famU S) ch = [] ↔ insideL S ch = [] := by
      rw [List.eq_nil_iff_forall_not_mem, List.eq_nil_iff_forall_not_mem]
      exact ⟨fun x s y => x s ((hm s).mpr y), fun x s y => x s ((hm s).mp y)⟩
    by_cases e : insideL S ch = []
    · rw [if_pos e, if_pos (this.mpr e)]
    · rw [if_neg e, if_neg (fun x => e (this.mp x))]
  unfold comN
  rw [h0]
  apply Nat.eq_of_testBit_eq
  intro i
  rw [fold_and, fold_and]
  congr 1
  rw [Bool.eq_iff_iff, List.all_eq_true, List.all_eq_true]
  exact ⟨fun x s y => x s ((hm s).mpr y), fun x s y => x s ((hm s).mp y)⟩
theorem tq (T : Int) : (T % 24).toNat < 24 := by have := Int.emod_lt_of_pos T (show (0 : Int) < 24 by decide); omega
section
variable {T : Int} {S : List Nat}
theorem over_at (h : OkS S) {i mk : Nat} (hi : i < S.length) (hmk : mk < 8) : 0 ≤ overC (lettersL mk (smL T)) (partL T S i) (greatN T S i) ∧ (overC (lettersL mk (smL T)) (partL T S i) (greatN T S i) == 0) = ((S.getD i 0 &&& mk) == S.getD i 0) := by
  have hs := h _ (List.mem_of_getElem? (getD_get hi))
  have := over_fact ⟨_, tq T⟩ ⟨S.getD i 0 - 1, by omega⟩ ⟨mk, hmk⟩ ⟨i % 2, Nat.mod_lt _ (by decide)⟩
  simp only [show S.getD i 0 - 1 + 1 = S.getD i 0 by omega] at this
  exact this
theorem overM_ge (h : OkS S) (hS : 0 < S.length) {mk : Nat} (hmk : mk < 8) : 0 ≤ overM T S mk ∧ (overM T S mk == 0) = anyS S mk := by
  have hne : ((List.range S.length).map fun i => overC (lettersL mk (smL T)) (partL T S i) (greatN T S i)) ≠ [] := fun e => by rw [List.map_eq_nil_iff, List.range_eq_nil] at e; omega
  obtain ⟨m1, m2⟩ := minL_spec hne
  obtain ⟨i, hi, e⟩ := List.mem_map.mp m1
  have hi := List.mem_range.mp hi
  obtain ⟨a1, a2⟩ := over_at (T := T) h hi hmk
  have hge : 0 ≤ overM T S mk := by unfold overM; rw [← e]; exact a1
  refine ⟨hge, ?_⟩
  rw [Bool.eq_iff_iff]
  unfold anyS
  rw [List.any_eq_true]
  constructor
  · intro hz
    have e' : overC (lettersL mk (smL T)) (partL T S i) (greatN T S i) = overM T S mk := e
    rw [e', hz] at a2
    exact ⟨_, List.mem_of_getElem? (getD_get hi), a2.symm⟩
  · rintro ⟨s, hs, hsub⟩
    obtain ⟨j, hj, ej⟩ := List.getElem_of_mem hs
    have hgd : S.getD j 0 = s := by rw [List.getD_eq_getElem?_getD, List.getElem?_eq_getElem hj, ej]; rfl
    obtain ⟨b1, b2⟩ := over_at (T := T) h hj hmk
    rw [hgd, hsub] at b2
    have := m2 _ (List.mem_map_of_mem (f := fun i => overC (lettersL mk (smL T)) (partL T S i) (greatN T S i)) (List.mem_range.mpr hj))
    have hz : overC (lettersL mk (smL T)) (partL T S j) (greatN T S j) = 0 := eq_of_beq b2
    rw [beq_iff_eq]
    have : overM T S mk ≤ 0 := by rw [← hz]; exact this
    omega
theorem hm_lt' {k p : Nat} (hk : k < 6) (hp : p ≤ 3) : hm k p < 8 := hm_lt ⟨k, hk⟩ ⟨p, by omega⟩
theorem hm_7 : ∀ k : Fin 6, hm k.1 3 = 7 := by decide +kernel
theorem sub_7 : ∀ s : Fin 8, (s.1 &&& 7) == s.1 := by decide
theorem ent_at (h : OkS S) (hS : 0 < S.length) {k : Nat} (hk : k < 6) : entO T S k = [(entName T k (mE S k), [48 + k])] := by
  have hf : ∀ p ∈ [1, 2, 3], fpOk T S k p = anyS S (hm k p) := fun p hp => by
    simp only [List.mem_cons, List.not_mem_nil, or_false] at hp
    exact (overM_ge h hS (hm_lt' hk (by omega))).2
  have hf2 : [1, 2, 3].find? (fpOk T S k) = [1, 2, 3].find? fun p => anyS S (hm k p) := by
    simp only [List.find?_cons, hf 1 (by simp), hf 2 (by simp), hf 3 (by simp)]
    rfl
  have h3 : anyS S (hm k 3) = true := by
    rw [hm_7 ⟨k, hk⟩]
    unfold anyS
    rw [List.any_eq_true]
    have h0 := h _ (List.mem_of_getElem? (getD_get hS))
    exact ⟨S.getD 0 0, List.mem_of_getElem? (getD_get hS), sub_7 ⟨S.getD 0 0, by omega⟩⟩
  unfold entO mE
  rw [hf2]
  cases e : [1, 2, 3].find? fun p => anyS S (hm k p) with
  | some p => rfl
  | none =>
    rw [List.find?_eq_none] at e
    exact absurd h3 (e 3 (by simp))
theorem mE_lt {k : Nat} (hk : k < 6) : mE S k < 8 := by
  unfold mE
  refine hm_lt' hk ?_
  cases e : [1, 2, 3].find? fun p => anyS S (hm k p) with
  | none => exact Nat.le_refl 3
  | some p =>
    have := List.mem_of_find?_eq_some e
    simp only [List.mem_cons, List.not_mem_nil, or_false] at this
    show p ≤ 3; omega
theorem got_at (h : OkS S) (hS : 0 < S.length) {tbl : List Row} {tp : List Nat} (ht : tbl.map (·.2) = (setsN, tp) :: (List.range 6).flatMap (entO T S)) {ch : Nat} (hch : ch < 8) :
    gotAll tbl (lettersL ch (selL T ch)) = ((List.range 6).filter fun k => mE S k == ch).map fun k => [48 + k] := by
  have e : gotAll tbl (lettersL ch (selL T ch)) = ((tbl.map (·.2)).filter fun t => t.1.map lo1 == (lettersL ch (selL T ch)).map lo1).map (·.2) := by
    unfold gotAll
    rw [List.filter_map, List.map_map]; rfl
  have hlo : ∀ a : Nat, a < 8 → (lettersL a (smL T)).map lo1 = lettersL a (smL T) ∧ (lettersL a (laL T)).map lo1 = lettersL a (smL T) := fun a ha =>
    ⟨(lower_fact ⟨_, tq T⟩ ⟨a, ha⟩ ⟨a, ha⟩).2.2, (lower_fact ⟨_, tq T⟩ ⟨a, ha⟩ ⟨a, ha⟩).2.1⟩
  have hsel : (lettersL ch (selL T ch)).map lo1 = lettersL ch (smL T) := by
    unfold selL; split
    · exact (hlo ch hch).2
    · exact (hlo ch hch).1
  have hnm : ∀ k, k < 6 → ((entName T k (mE S k)).map lo1 == lettersL ch (smL T)) = (mE S k == ch) := fun k hk => by
    have hm := mE_lt (S := S) hk
    have e1 : (entName T k (mE S k)).map lo1 = lettersL (mE S k) (smL T) := by
      unfold entName; split
      · exact (hlo _ hm).2
      · exact (hlo _ hm).1
    rw [e1, ← (hlo _ hm).1]
    exact (lower_fact ⟨_, tq T⟩ ⟨_, hm⟩ ⟨ch, hch⟩).1
  rw [e, ht, hsel, List.filter_cons_of_neg (fun x => by
    have x := congrArg List.length (eq_of_beq x)
    have := lettersL_len ch (smL T)
    rw [List.length_map, show (setsN : List Nat).length = 4 from rfl] at x
    omega)]
  have step : ∀ l : List Nat, (∀ k ∈ l, k < 6) → ((l.flatMap (entO T S)).filter fun t => t.1.map lo1 == lettersL ch (smL T)).map (·.2) = (l.filter fun k => mE S k == ch).map fun k => [48 + k] := by
    intro l
    induction l with
    | nil => intro _; rfl
    | cons k l ih =>
      intro hl
      have hk := hl k (.head _)
      rw [List.flatMap_cons, List.filter_append, List.map_append, ih (fun j hj => hl j (.tail _ hj)), ent_at h hS hk, List.filter_cons, List.filter_cons, hnm k hk]
      cases mE S k == ch <;> rfl
  exact step _ fun k hk => List.mem_range.mp hk
theorem due_at (h : OkS S) (hS : 0 < S.length) {tbl : List Row} {tp : List Nat} (ht : tbl.map (·.2) = (setsN, tp) :: (List.range 6).flatMap (entO T S)) {ch : Nat} (h1 : 1 ≤ ch) (h7 : ch ≤ 7) : Due T S tbl ch ((List.range 6).filter fun k => mE S k == ch) := by
  have hc := fam_chk S
  unfold chk at hc
  have hU : (famU S).isEmpty = false := by
    have := (fam_mem h _).mpr (List.mem_of_getElem? (getD_get hS))
    cases e : famU S with
    | nil => rw [e] at this; cases this
    | cons => rfl
  rw [hU, Bool.false_or, List.all_eq_true] at hc
  have hc := hc (ch - 1) (List.mem_range.mpr (by omega))
  rw [show ch - 1 + 1 = ch by omega, Bool.and_eq_true, List.all_eq_true, com_fam h] at hc
  simp only [mE_fam h] at hc
  obtain ⟨hc1, hc2⟩ := hc
  have hw : wlen T ch = pw3 ch := let_len _ _
  refine ⟨got_at h hS ht (by omega), ?_, ?_, ?_, ?_, ?_⟩
  · exact Nat.le_trans (List.length_filter_le _ _) (by simp)
  · unfold rights
    refine List.filter_congr fun k hk => ?_
    have hk6 := List.mem_range.mp hk
    have := hc1 k hk
    unfold rOk
    rw [hw]
    have hcon : ((List.range 6).filter fun k => mE S k == ch).contains k = (mE S k == ch) := by
      rw [Bool.eq_iff_iff, List.contains_iff_mem, List.mem_filter]
      exact ⟨fun x => x.2, fun x => ⟨hk, x⟩⟩
    rw [hcon]
    cases e : mE S k == ch with
    | false => rfl
    | true => rw [e] at this; simpa using this
  · rw [hw]
    have key : ∀ c : Fin 7, 1 ≤ pw3 (c.1 + 1) := by decide
    have := key ⟨ch - 1, by omega⟩
    simpa [show ch - 1 + 1 = ch by omega] using this
  · rw [let_len, hw]; exact eq_of_beq hc2
  · have hi : ch % S.length < S.length := Nat.mod_lt _ hS
    have hs := h _ (List.mem_of_getElem? (getD_get hi))
    have := lev_fact ⟨_, tq T⟩ ⟨S.getD (ch % S.length) 0 - 1, by omega⟩ ⟨ch - 1, by omega⟩ ⟨ch % S.length % 2, Nat.mod_lt _ (by decide)⟩
    simp only [show S.getD (ch % S.length) 0 - 1 + 1 = S.getD (ch % S.length) 0 by omega, show ch - 1 + 1 = ch by omega] at this
    exact this
theorem tbl_names (h : OkS S) (hS : 0 < S.length) {tbl : List Row} {tp : List Nat} (ht : tbl.map (·.2) = (setsN, tp) :: (List.range 6).flatMap (entO T S)) : ∀ t ∈ tbl, Ltr t.2.1 ∧ t.2.1.length ≤ 100000 := fun t hm => by
  have hm : t.2 ∈ tbl.map (·.2) := List.mem_map_of_mem hm
  rw [ht] at hm
  rcases List.mem_cons.mp hm with e | hm
  · rw [e]; exact ⟨setsN_ltr, by show (4 : Nat) ≤ _; decide⟩
  · obtain ⟨k, hk, hm⟩ := List.mem_flatMap.mp hm
    rw [ent_at h hS (List.mem_range.mp hk)] at hm
    rw [List.mem_singleton.mp hm]
    refine ⟨?_, ?_⟩
    · show Ltr (entName T k (mE S k))
      unfold entName; split
      · exact let_la _ _
      · exact let_sm _ _
    · show (entName T k (mE S k)).length ≤ _
      unfold entName
      split
      · have := lettersL_len (mE S k) (laL T); omega
      · have := lettersL_len (mE S k) (smL T); omega
end
theorem sets_ok (D : List Nat) : OkS (setsL D) := fun s hs => by
  obtain ⟨n, _, rfl⟩ := List.mem_map.mp hs
  have := Nat.mod_lt n (show 0 < 7 by decide)
  omega
end Mine
end

section
set_option maxRecDepth 100000
namespace Mine
/-- a call from outside: no frame lies below -/
theorem code_top {prog : Program} {w : World} {S0 : Shared} {mg mb : Str → Option Value} {A : Around} {a : Addr} {fd : FuncData} {body : List Stmt} {names : List Str} {ns : List Str} {xs : List V} {K : V → Sto → Prop} {σ : Sto} (B : Bs S0 mg mb) (FO : FnOk S0 a fd body names) (hand : A.handled = .none) (hroom : A.depth < recursionLimit)
    (hl : xs.length = ns.length) (hb : ∀ vs : List Value, vs.length = xs.length → bindArgs fd ⟨vs, []⟩ = pure (ns.zip vs))
    (h : ((ns.zip xs).all fun x => fd.scope.names.lookup x.1 == some .local || (fd.scope.names.lookup x.1 == some .cell && ((cellsFrom 0 fd.scope.names []).map (·.1)).contains x.1)) = true ∧
      ∀ L, Ex prog w S0 { A := A.deeper (fenv fd a L), env := fenv fd a L, names := names, F := [], kind := FO.kind, glob := FO.glob, blt := FO.blt, hand := hand, nd := FO.nd } body (bindMs (fun n => fd.scope.names.lookup n) names (ns.zip xs) [])
        (cellObjs (cellsFrom (L + 1) fd.scope.names []) (bindCs (fun n => fd.scope.names.lookup n) (ns.zip xs) fun _ => .none) ++ σ) fun F _ σ' => ∃ x, F = .ret x ∧ K x σ')
    {vs : List Value} (hxs : RzL xs vs) {s : Shared} (R : Rel S0 σ s) {Rr : Result → Shared → Prop} (k : ∀ v V σ' s', Rel S0 σ' s' → Rz V v → K V σ' → Rr (.ok (.ret v)) s') :
    codeAny (model prog w) A (.call (.ref a) ⟨vs, []⟩) Rr s := by
  obtain ⟨o, ho, hd⟩ := FO.at_
  refine codeAny_call_function hroom (R.keep _ _ ho) hd FO.co FO.gen FO.body (FO.code.keeps R.keep) ?_
  rw [hb vs hxs.length.symm]
  refine wpAny_pure ?_
  rw [FO.clo]
  obtain ⟨hok, hex⟩ := h
  have hn : (ns.zip xs).map (·.1) = (ns.zip vs).map (·.1) := by
    rw [List.map_fst_zip (by omega), List.map_fst_zip (by rw [← hxs.length]; omega)]
  have hz : RzL ((ns.zip xs).map (·.2)) ((ns.zip vs).map (·.2)) := by
    rw [List.map_snd_zip (by omega), List.map_snd_zip (by rw [← hxs.length]; omega)]; exact hxs
  have hnames : ∀ n acc, (cellsFrom n fd.scope.names acc).map (·.1) = (cellsFrom 0 fd.scope.names acc).map (·.1) := fun n acc => cellsFrom_names _ _ _ _ _ rfl
  have hkind : ∀ x ∈ ns.zip vs, fd.scope.names.lookup x.1 = some .local ∨ (fd.scope.names.lookup x.1 = some .cell ∧ ((cellsFrom (s.heap.objs.size + 1) fd.scope.names []).lookup x.1).isSome = true) := fun x hx => by
    have hm : x.1 ∈ (ns.zip xs).map (·.1) := by rw [hn]; exact List.mem_map_of_mem hx
    obtain ⟨y, hy, e⟩ := List.mem_map.mp hm
    have := List.all_eq_true.mp hok y hy
    rw [e] at this
    simp only [Bool.or_eq_true, Bool.and_eq_true, beq_iff_eq, List.contains_iff_mem] at this
    refine this.imp id fun ⟨p, q⟩ => ⟨p, ?_⟩
    rw [← hnames (s.heap.objs.size + 1)] at q
    obtain ⟨z, hz, e⟩ := List.mem_map.mp q
    have nd : ((cellsFrom (s.heap.objs.size + 1) fd.scope.names []).map (·.1)).Nodup := by rw [hnames]; exact FO.ndc
    rw [← e, lookup_of_mem_nodup nd (c := z.2) hz]; rfl
  refine wpAny_newFunctionEnv_cells FO.kind hkind fun env he s2 X => ?_
  subst he
  refine ⟨(B.lim.keeps R.keep).keeps X.toInCall.keep, codeAny_func ?_⟩
  have R2 := Rel.enter R (names := names) (m := bindMs (fun n => fd.scope.names.lookup n) names (ns.zip xs) []) (g := bindCs (fun n => fd.scope.names.lookup n) (ns.zip xs) fun _ => .none) X
    (bindMs_ok FO.nd hn hz (fun x hx hl => FO.loc _ hl) FrOk.empty) (by show ((cellsFrom (s.heap.objs.size + 1) fd.scope.names []).map (·.1)).Nodup; rw [hnames]; exact FO.ndc) (bindCs_ok hn hz fun _ => trivial)
  refine Ex.get (hex _) s2 R2 _ _ fun f F m2 σ2 s3 R4 hf hk => ?_
  obtain ⟨x, rfl, hk⟩ := hk
  obtain ⟨v, rfl, hv⟩ := hf
  exact k _ x σ2 s3 (R4.sub (List.sublist_cons_self _ _)) hv hk
section
variable {w : World} {S0 : Shared} {Kf : Frag} {mg mb : Str → Option Value}
theorem law_call (H : Hc S0 Kf mg mb) (FL : FnAt S0 aLaw stLaw "law" .none .none) {A : Around} (hand : A.handled = .none) (hroom : A.depth + 3 < recursionLimit) (hu : ∀ L fd, (A.deeper (fenv fd aLaw L)).units < cLine) {sa : Addr} {ns : List Int} {vs : List Value}
    (hsa : S0.heap.IsList sa vs.toArray) (hz : RzL (ns.map V.int) vs) (hns : ns.length ≤ 63) {Rr : Result → Shared → Prop} (k : ∀ σ' s', Rel S0 σ' s' → Rr (.ok (.ret (.bool true))) s') :
    codeAny (model pw w) A (.call (.ref aLaw) ⟨[.ref sa], []⟩) Rr S0 := by
  obtain ⟨pm, cd, FO⟩ : ∃ pm cd, FnOk S0 aLaw (mkFd stLaw "law" pm cd .none .none) (bodyOf stLaw) (locals (scopeOf stLaw)) :=
    FL.ok (fun _ _ => ⟨rfl, rfl, rfl, rfl, rfl, rfl, rfl⟩) rfl rfl rfl (by decide +kernel) (by decide +kernel) (by decide +kernel)
  refine code_top (K := fun V _ => V = .bool true) (ns := ["script"]) (xs := [.ref sa]) (σ := []) H.H.B FO hand (by omega) rfl (fun vs hv => ?_) ⟨by rfl, fun L => ?_⟩ (vs := [.ref sa]) ⟨rfl, trivial⟩ ⟨rfl, rfl, rfl, fun _ _ h => h, List.nodup_nil, fun p hp => (nomatch hp)⟩ fun v V σ' s' R' hv hk => ?_
  · obtain ⟨v, rfl⟩ : ∃ v, vs = [v] := List.length_eq_one_iff.mp hv
    rfl
  · let c0 : Cx := { A := A, env := fenv (mkFd stLaw "law" pm cd .none .none) aLaw L, names := [], F := [], kind := FO.kind, glob := FO.glob, blt := FO.blt, hand := hand, nd := List.nodup_nil }
    have huL := hu L (mkFd stLaw "law" pm cd .none .none)
    have hD := draws_len (ns.take 63)
    have hok := sets_ok (draws03 (ns.take 63))
    have hSl : (setsL (draws03 (ns.take 63))).length = (draws03 (ns.take 63)).length := by unfold setsL; rw [List.length_map]
    refine lawA (c := c0) (m := []) (L := L) FO H hsa hz hns fun sm la da => ?_
    refine lawBB (c := c0) (m := []) (L := L) (la := la) FO H (by show A.depth + 2 < _; omega) huL hD.2 (draws_lt _) [(la, .list (sgV (laL (ns.take 63).sum))), (sm, .list (sgV (smL (ns.take 63).sum)))] fun x d hl tp rd oct => ?_
    refine lawCC (c := c0) (m := []) (L := L) FO H (by show A.depth + 2 < _; omega) hD.2 fun oa o0 o1 o2 o3 o4 o5 ga pa se mix => ?_
    refine lawDD (c := c0) (m := []) (L := L) (T := (ns.take 63).sum) (S := setsL (draws03 (ns.take 63))) (tbl := [(tp, setsN, tapeL (ns.take 63).sum (draws03 (ns.take 63)))]) FO H hroom (by omega) (by simp) (fun k p hk hp => (overM_ge hok (by omega) (hm_lt' hk hp)).1) fun wor tbl' ht hl => ?_
    refine lawEE (c := c0) (m := []) (L := L) FO H hroom huL (by omega) (tbl_names hok (by omega) ht) (by simp at hl; omega) (fun ch h1 h7 => ⟨_, due_at hok (by omega) ht h1 h7⟩) fun m' σ' => ⟨_, rfl, rfl⟩
  · subst hk
    obtain rfl : v = .bool true := hv
    exact k _ _ R'
end
end Mine
end

section
set_option maxRecDepth 100000
namespace Mine
/- what is looked at, at the end of the top -/
def fragOf (as : List Addr) (h : Heap) : Frag := as.filterMap fun a => (h.get? a).map fun o => (a, o)
theorem fragOf_in (as : List Addr) (h : Heap) : (fragOf as h).In h := fun a o e => by
  unfold fragOf at e
  induction as with
  | nil => cases e
  | cons b as ih =>
    rw [List.filterMap_cons] at e
    cases hb : h.get? b with
    | none => rw [hb] at e; exact ih e
    | some ob =>
      rw [hb] at e
      simp only [Option.map_some, List.lookup_cons] at e
      split at e
      · rename_i hab
        obtain rfl := eq_of_beq hab
        rw [hb]; exact e
      · exact ih e
def bare : Value → Value
  | .int i _ => .int i 0
  | v => v
/-- a def, without its module's name and its code -/
def fnSeen (h : Heap) (a : Addr) : Option (FuncData × Option Str) := match h.get? a with
  | some o => match o.data with
    | .func fd => some ({ fd with pyModule := .none, code := .none }, match fd.code with
      | .ref c => match h.get? c with
        | some oc => match oc.data with
          | .fields vs => match vs[1]? with
            | some (Value.str q _) => some q
            | _ => .none
          | _ => .none
        | .none => .none
      | _ => .none)
    | _ => .none
  | .none => .none
def reSeen (h : Heap) (a : Addr) : Option (List Int) := match h.get? a with
  | some ⟨.type T, .none, .fields vs, sl⟩ => match vs.toList with
    | [.str _ _, _, _, _, _, .ref ca, i6] => match h.get? ca with
      | some ⟨.type T2, .none, .seq items _, sl2⟩ => if (T == "re.Pattern" && sl.isEmpty && Nat.beq (PySem.Builtin.Re.reRawNat i6) 0 && T2 == "tuple" && sl2.isEmpty) = true then some (items.toList.map PySem.Builtin.Re.reRawOf) else .none
      | _ => .none
    | _ => .none
  | _ => .none
def dfSeen (h : Heap) (a : Addr) : Bool := match h.get? a with
  | some ⟨.type T, .none, .seq vs _, sl⟩ => T == "tuple" && sl.isEmpty && (match vs.toList with | [.none] => true | _ => false)
  | _ => false
structure Seen where
  ns : Bool
  gl : List (Option Value)
  fns : List (Option (FuncData × Option Str))
  st : Bool
  re : List (Option (List Int))
  df : List Bool
  sys : Bool
  cb : List Bool
  cf : List (Option (Option Value))
  ct : List (Option Value)
  ck : Option (Option Value)
def glN : List Str := ["ord", "chr", "next", "len", "min", "max", "sum", "iter", "range", "list", "type", "str", "in_table_b1", "b1_set", "_parse_varint", "_substitution_cost", "_levenshtein_distance", "_law_unseen", "_law_octets", "_law_letters", "_law_over", "_law_apart",
  "_CASE_COST", "_MOVE_COST", "_MAX_STRING_SIZE", "Headers", "_name_disallowed_re", "_value_disallowed_re", "law"]
def fnA : List (Addr × Stmt × Str × Value) := [(aVarint, stVarint, "_parse_varint", .none), (aB1, stB1, "in_table_b1", .none), (aSubst, stSubst, "_substitution_cost", .none), (aLev, stLev, "_levenshtein_distance", .none), (aUnseen, stUnseen, "_law_unseen", .none),
  (aOctets, stOctets, "_law_octets", .none), (aLetters, stLetters, "_law_letters", .none), (aOver, stOver, "_law_over", .none), (aApart, stApart, "_law_apart", .none), (aLaw, stLaw, "law", .none), (aInit, meth 0, "Headers.__init__", .ref aInitD), (aConv, meth 1, "Headers._convert_string_type", .none), (aGetAll, meth 7, "Headers.get_all", .none),
  (aGet, meth 8, "Headers.get", .ref aGetD), (aAdd, meth 16, "Headers.add_header", .none)]
def kfA : List Addr := [221, 220, aInit, aConv, aGetAll, aGet, aAdd]
def sees (s : Shared) : Seen where
  ns := s.heap.isNs mainGlobals
  gl := glN.map fun n => (s.heap.nsMap mainGlobals n).map bare
  fns := fnA.map fun x => fnSeen s.heap x.1
  st := match (s.heap.get? aB1set).bind setView with
    | some l => l.all (fun i => b1.contains i) && b1.all (fun i => l.contains i)
    | .none => false
  re := [reSeen s.heap aNameRe, reSeen s.heap aValueRe]
  df := [dfSeen s.heap aInitD, dfSeen s.heap aGetD]
  sys := (s.heap.get? sysModules).isSome
  cb := let K := fragOf kfA s.heap; [makesIn K aClass, plainOver K aClass, hasDictIn K aClass]
  cf := let K := fragOf kfA s.heap; (["__getattribute__", "__getattr__", "__setattr__", "__init__", "_convert_string_type", "get_all", "get", "add_header", "_headers"] : List Str).map fun n => findIn K (.ref aClass) n
  ct := let K := fragOf kfA s.heap; [aInit, aConv, aGetAll, aGet, aAdd].map fun a => typeIn K (.ref a)
  ck := takerIn (fragOf kfA s.heap) aClass "_headers"
def nameCodeI : List Int := [14, 10, 4, 1, 1, 22, 0, 31, 16, 127, 0, 13, 7, 22, 0, 31, 16, 127, 0, 1]
def valueCodeI : List Int := [14, 14, 4, 1, 1, 9, 4294966783, 0, 0, 2147483648, 0, 0, 0, 0, 0, 13, 11, 9, 4294966783, 0, 0, 2147483648, 0, 0, 0, 0, 0, 1]
def seenIs : Seen where
  ns := true
  gl := [.none, .none, .none, .none, .none, .none, .none, .none, .none, .none, .none, .none, some (.ref aB1), some (.ref aB1set), some (.ref aVarint), some (.ref aSubst), some (.ref aLev), some (.ref aUnseen), some (.ref aOctets), some (.ref aLetters), some (.ref aOver), some (.ref aApart),
    some (.int 1 0), some (.int 2 0), some (.int 40 0), some (.ref aClass), some (.ref aNameRe), some (.ref aValueRe), some (.ref aLaw)]
  fns := fnA.map fun x => some (mkFd x.2.1 x.2.2.1 .none .none x.2.2.2 .none, some x.2.2.1)
  st := true
  re := [some nameCodeI, some valueCodeI]
  df := [true, true]
  sys := true
  cb := [true, true, true]
  cf := [some (some (.builtin "object.__getattribute__")), some .none, some (some (.builtin "object.__setattr__")), some (some (.ref aInit)), some (some (.ref aConv)), some (some (.ref aGetAll)), some (some (.ref aGet)), some (some (.ref aAdd)), some .none]
  ct := [some (.type "function"), some (.type "function"), some (.type "function"), some (.type "function"), some (.type "function")]
  ck := some .none
def q03 : Program := view pw [25]
end Mine
end

section
set_option maxRecDepth 1000000
set_option maxHeartbeats 0
namespace Mine
def loose03 : List Str := ["_sre", "_wall", "_MAX_STRING_SIZE", "_MOVE_COST", "_CASE_COST", "_substitution_cost", "_levenshtein_distance", "_parse_varint", "b1_set", "in_table_b1", "tspecials", "_name_disallowed_re", "_value_disallowed_re", "_formatparam", "Headers", "_law_unseen", "_law_octets", "_law_letters", "_law_over", "_law_apart"]
abbrev Lft03 (w : World) : Prop := (openEnds treeTable pw w 5000).map (fun s => (openSeen q03 loose03 (importedModules pw.main.body) (fun _ => true) true s, sees s)) = some (openGood q03 loose03, seenIs)
theorem left_ff (w : World) : Lft03 ((w.withFollow "set-order" false).withFollow "special-get-raises" false) := by
  unfold Lft03 openEnds topFrom
  rw [PySem.W.Fast.te4187177175401517315, PySem.W.Fast.te5923862056798008813, PySem.W.Fast.te14364793385576792824, PySem.W.Fast.te14082659384304107361, PySem.W.Fast.te8920871248978507458]
  kernel_rfl
end Mine
end

section
set_option maxRecDepth 1000000
set_option maxHeartbeats 0
namespace Mine
theorem left_ft (w : World) : Lft03 ((w.withFollow "set-order" false).withFollow "special-get-raises" true) := by
  unfold Lft03 openEnds topFrom
  rw [PySem.W.Fast.te4187177175401517315, PySem.W.Fast.te5923862056798008813, PySem.W.Fast.te14364793385576792824, PySem.W.Fast.te14082659384304107361, PySem.W.Fast.te8920871248978507458]
  kernel_rfl
theorem left_tf (w : World) : Lft03 ((w.withFollow "set-order" true).withFollow "special-get-raises" false) := by
  unfold Lft03 openEnds topFrom
  rw [PySem.W.Fast.te4187177175401517315, PySem.W.Fast.te5923862056798008813, PySem.W.Fast.te14364793385576792824, PySem.W.Fast.te14082659384304107361, PySem.W.Fast.te8920871248978507458]
  kernel_rfl
theorem left_tt (w : World) : Lft03 ((w.withFollow "set-order" true).withFollow "special-get-raises" true) := by
  unfold Lft03 openEnds topFrom
  rw [PySem.W.Fast.te4187177175401517315, PySem.W.Fast.te5923862056798008813, PySem.W.Fast.te14364793385576792824, PySem.W.Fast.te14082659384304107361, PySem.W.Fast.te8920871248978507458]
  kernel_rfl
/-- in either order of the two rows -/
theorem left03 : LeftO pw q03 loose03 (fun _ => true) sees (fun _ => seenIs) 5000 := fun w =>
  byRow2 "special-get-raises" (P := Lft03) (fun w => byRow2 "set-order" (P := fun w => Lft03 (w.withFollow "special-get-raises" false)) left_ff left_tf w) (fun w => byRow2 "set-order" (P := fun w => Lft03 (w.withFollow "special-get-raises" true)) left_ft left_tt w) w
end Mine
end

section
open PySem.Builtin PySem.Builtin.Re
set_option maxRecDepth 100000
namespace Mine
def Grown (h h' : Heap) : Prop := ∀ b o, h.get? b = some o → h'.get? b = some o
theorem fnAt_of {h : Heap} {S0 : Shared} {a : Addr} {st : Stmt} {q : Str} {dV kV : Value} (hg : Grown h S0.heap) (e : fnSeen h a = some (mkFd st q .none .none dV kV, some q))
    (hst : ∀ pm cd, mkFd st q pm cd dV kV = { mkFd st q .none .none dV kV with pyModule := pm, code := cd }) : FnAt S0 a st q dV kV := by
  unfold fnSeen at e
  split at e
  · rename_i o ho
    split at e
    · rename_i fd hd
      obtain ⟨e1, e2⟩ := Prod.mk.inj (Option.some.inj e)
      refine ⟨o, fd.pyModule, fd.code, hg _ _ ho, ?_, ?_⟩
      · rw [hd, hst, ← e1]
      · split at e2
        · rename_i c hc
          split at e2
          · rename_i oc hoc
            split at e2
            · rename_i vs hvs
              split at e2
              · rename_i q' t hq
                obtain rfl := Option.some.inj e2
                exact ⟨c, oc, vs, t, hc, hg _ _ hoc, hvs, hq⟩
              · cases e2
            · cases e2
          · cases e2
        · cases e2
    · cases e
  · cases e
theorem isRe_of {h h' : Heap} {a : Addr} {l : List Int} {code : Array Nat} (hg : Grown h h') (e : reSeen h a = some l) (hc : l.map (·.toNat) = code.toList) : IsRe h' a code := by
  unfold reSeen at e
  split at e
  · rename_i T vs sl ho
    split at e
    · rename_i x t v1 i2 v3 v4 ca i6 hvs
      split at e
      · rename_i T2 items n sl2 hca
        split at e
        · rename_i hif
          simp only [Bool.and_eq_true, beq_iff_eq, Array.isEmpty_iff] at hif
          obtain ⟨⟨⟨⟨rfl, rfl⟩, h6⟩, rfl⟩, rfl⟩ := hif
          have hvs' : vs = #[.str x t, v1, i2, v3, v4, .ref ca, i6] := by rw [← Array.toList_inj, hvs]
          subst hvs'
          refine ⟨x, t, i2, i6, v1, v3, v4, ca, items, n, hg _ _ ho, Nat.eq_of_beq_eq_true h6, hg _ _ hca, ?_⟩
          rw [← Array.toList_inj, Array.toList_map, Array.toList_map, ← hc, ← Option.some.inj e]
        · cases e
      · cases e
    · cases e
  · cases e
theorem df_of {h h' : Heap} {a : Addr} (hg : Grown h h') (e : dfSeen h a = true) : ∃ n, h'.get? a = some ⟨.type "tuple", .none, .seq #[.none] n, #[]⟩ := by
  unfold dfSeen at e
  split at e
  · rename_i T vs n sl ho
    simp only [Bool.and_eq_true, beq_iff_eq, Array.isEmpty_iff] at e
    obtain ⟨⟨rfl, rfl⟩, e⟩ := e
    split at e
    · rename_i hvs
      have hvs' : vs = #[.none] := by rw [← Array.toList_inj, hvs]
      subst hvs'
      exact ⟨n, hg _ _ ho⟩
    · cases e
  · cases e
theorem set_of {h h' : Heap} {a : Addr} (hg : Grown h h') (e : (match (h.get? a).bind setView with | some l => l.all (fun i => b1.contains i) && b1.all (fun i => l.contains i) | .none => false) = true) :
    ∃ o l, h'.get? a = some o ∧ setView o = some l ∧ ∀ i, l.contains i = b1.contains i := by
  split at e
  · rename_i l hl
    obtain ⟨o, ho, hv⟩ := Option.bind_eq_some_iff.mp hl
    simp only [Bool.and_eq_true, List.all_eq_true] at e
    refine ⟨o, l, hg _ _ ho, hv, fun i => ?_⟩
    rw [Bool.eq_iff_iff]
    exact ⟨fun x => e.1 i (List.contains_iff_mem.mp x), fun x => e.2 i (List.contains_iff_mem.mp x)⟩
  · cases e
theorem mg_of {h h' : Heap} {mg : Str → Option Value} (hg : Grown h h') (hns : h.isNs mainGlobals = true) (g : h'.Ns mainGlobals mg) (n : Str) : mg n = h.nsMap mainGlobals n := by
  obtain ⟨o, es, ep, ho, hd, hk, hm⟩ := g
  unfold Heap.nsMap
  cases hb : h.get? mainGlobals with
  | none => unfold Heap.isNs at hns; rw [hb] at hns; cases hns
  | some ob =>
    obtain rfl : ob = o := Option.some.inj ((hg _ _ hb).symm.trans ho)
    simp only [hd]
    exact (hm n).symm
theorem bare_none {x : Option Value} (h : x.map bare = .none) : x = .none := by cases x <;> simp_all
theorem bare_ref {x : Option Value} {a : Addr} (h : x.map bare = some (.ref a)) : x = some (.ref a) := by
  cases x with
  | none => cases h
  | some v => cases v <;> simp_all [bare]
theorem bare_int {x : Option Value} {i : Int} (h : x.map bare = some (.int i 0)) : ∃ t, x = some (.int i t) := by
  cases x with
  | none => cases h
  | some v => cases v <;> simp_all [bare]
theorem facts03 {S0 : Shared} {s : Shared} {mg mb : Str → Option Value} (e : sees s = seenIs) (hg : Grown s.heap S0.heap) (B : Bs S0 mg mb) : Hc S0 (fragOf kfA s.heap) mg mb ∧ FnAt S0 aLaw stLaw "law" .none .none ∧ mg "law" = some (.ref aLaw) := by
  have e_ns := congrArg Seen.ns e
  have e_gl := congrArg Seen.gl e
  have e_fn := congrArg Seen.fns e
  have e_st := congrArg Seen.st e
  have e_re := congrArg Seen.re e
  have e_df := congrArg Seen.df e
  have e_sys := congrArg Seen.sys e
  have e_cb := congrArg Seen.cb e
  have e_cf := congrArg Seen.cf e
  have e_ct := congrArg Seen.ct e
  have e_ck := congrArg Seen.ck e
  clear e
  simp only [sees, seenIs, glN, fnA, kfA, List.map_cons, List.map_nil, List.cons.injEq, and_true] at e_ns e_gl e_fn e_st e_re e_df e_sys e_cb e_cf e_ct e_ck
  obtain ⟨g1, g2, g3, g4, g5, g6, g7, g8, g9, g10, g11, g12, g13, g14, g15, g16, g17, g18, g19, g20, g21, g22, g23, g24, g25, g26, g27, g28, g29⟩ := e_gl
  obtain ⟨f1, f2, f3, f4, f5, f6, f7, f8, f9, f10, f11, f12, f13, f14, f15⟩ := e_fn
  obtain ⟨r1, r2⟩ := e_re
  obtain ⟨d1, d2⟩ := e_df
  obtain ⟨b1', b2', b3'⟩ := e_cb
  obtain ⟨c1, c2, c3, c4, c5', c6, c7, c8, c9⟩ := e_cf
  obtain ⟨t1, t2, t3, t4, t5⟩ := e_ct
  have mgo := mg_of hg e_ns B.g
  have hsys : ∃ o, S0.heap.get? sysModules = some o := by
    obtain ⟨o, ho⟩ := Option.isSome_iff_exists.mp e_sys
    exact ⟨o, hg _ _ ho⟩
  refine ⟨⟨⟨B, ?_, ?_, ?_, ?_, ?_, ?_, ?_, ?_, ?_, ?_, ?_, ?_, ?_, ?_, ?_, ?_, ?_, ?_, ?_, ?_, ?_, ?_, ?_, ?_, ?_, ?_, ?_, ?_, ?_, ?_, ?_, ?_, ?_, ?_, ?_⟩, ⟨?_, b1', c1, c2, c3, b2', b3'⟩, ?_, ?_, ?_, isRe_of hg r1 rfl, isRe_of hg r2 rfl, hsys, c4, t1, c5', t2, c6, t3, c7, t4, c8, t5, c9, e_ck, ?_, df_of hg d1, ?_, ?_, ?_, df_of hg d2, ?_⟩, ?_, ?_⟩
  iterate 12 (rw [mgo]; exact bare_none (by assumption))
  iterate 10 (rw [mgo]; exact bare_ref (by assumption))
  iterate 3 (rw [mgo]; exact bare_int (by assumption))
  · exact fnAt_of hg f1 fun _ _ => rfl
  · exact fnAt_of hg f2 fun _ _ => rfl
  · exact fnAt_of hg f3 fun _ _ => rfl
  · exact fnAt_of hg f4 fun _ _ => rfl
  · exact fnAt_of hg f5 fun _ _ => rfl
  · exact fnAt_of hg f6 fun _ _ => rfl
  · exact fnAt_of hg f7 fun _ _ => rfl
  · exact fnAt_of hg f8 fun _ _ => rfl
  · exact fnAt_of hg f9 fun _ _ => rfl
  · exact set_of hg e_st
  · exact fun a o x => hg _ _ (fragOf_in _ _ a o x)
  · rw [mgo]; exact bare_ref g26
  · rw [mgo]; exact bare_ref g27
  · rw [mgo]; exact bare_ref g28
  · exact fnAt_of hg f11 fun _ _ => rfl
  · exact fnAt_of hg f12 fun _ _ => rfl
  · exact fnAt_of hg f13 fun _ _ => rfl
  · exact fnAt_of hg f14 fun _ _ => rfl
  · exact fnAt_of hg f15 fun _ _ => rfl
  · exact fnAt_of hg f10 fun _ _ => rfl
  · rw [mgo]; exact bare_ref g29
end Mine
end

section
set_option maxRecDepth 1000000
set_option maxHeartbeats 0
namespace Mine
theorem reads_ints {R : WRecords} {cl : Str → Option Addr} {h : Heap} : ∀ {ns : List Int} {vs : List Value} {as : List Addr}, ReadsAllW R cl h vs (ns.map .int) as → RzL (ns.map V.int) vs
  | [], _, _, r => by cases r; trivial
  | i :: ns, _, _, r => by
    rw [List.map_cons] at r
    cases r with
    | cons r1 r2 => cases r1 with | int _ t => exact ⟨⟨t, rfl⟩, reads_ints r2⟩
theorem args_of {R : WRecords} {args : List WData} {p : WTm} (h1 : WShape.hasAll R args [.list .int] = true) (h2 : (WTm.and (.not (.lt (.lit (.int 63)) (.len (.arg 0)))) p).holds R { args := args } = true) : ∃ ns : List Int, args = [.list (ns.map .int)] ∧ ns.length ≤ 63 := by
  obtain ⟨d, r, rfl, x, y⟩ := hasAllW_cons h1
  obtain rfl := hasAllW_nil y
  obtain ⟨xs, rfl, hx⟩ := hasW_list x
  obtain ⟨ns, rfl⟩ := items_int hx
  refine ⟨ns, rfl, ?_⟩
  have h3 := (holds_andW h2).1
  unfold WTm.holds at h3
  simp [WTm.value, PySem.W.less?, PySem.W.Num.less?] at h3
  by_cases hh : (63 : Int) < ns.length
  · rw [decide_eq_true hh] at h3
    exact absurd h3 (by decide)
  · omega
theorem post_true (l : OpenLaw) (args : List WData) : l.row.toRowW.claim.post args (.bool true) args = true := by
  show (WShape.has l.row.toRowW.records (.bool true) .bool && WTm.holds l.row.toRowW.records (.eq .res (.lit (.bool true))) { args := args, res := some (.bool true), after := args }) = true
  rw [show WShape.has l.row.toRowW.records (.bool true) .bool = true by simp [WShape.has, WShape.arms], Bool.true_and]
  unfold WTm.holds
  simp [WTm.value, show PySem.W.same (.bool true) (.bool true) = true by simp [PySem.W.same]]
theorem none_of {P : Addr → Prop} : ∀ a ∈ ([] : List Addr), P a := fun a h => by cases h
def YP03 (_ : World) (h : Heap) : Prop := ∃ s : Shared, sees s = seenIs ∧ Grown s.heap h
theorem pre_of (l : OpenLaw) (hm : l.most = some 63) {args : List WData} (h : l.row.toRowW.claim.pre args = true) : ∃ ns : List Int, args = [.list (ns.map .int)] ∧ ns.length ≤ 63 := by
  obtain ⟨h1, h2⟩ := pre_splitW h
  have h2 : WTm.holds l.row.toRowW.records l.pre { args := args } = true := h2
  unfold OpenLaw.pre at h2
  rw [hm] at h2
  exact args_of h1 h2
theorem call03 (l : OpenLaw) (hp : l.prog = pw) (hm : l.most = some 63) {w : World} {s₁ : Shared} {mg mb : Str → Option Value} (Y : YP03 w s₁.heap) (B : Bs s₁ mg mb) {a : Addr} (hmg : mg "law" = some (.ref a)) (hgens : s₁.gens = #[])
    {args : List WData} {vals : List Value} {as : List Addr} (hpre : l.row.toRowW.claim.pre args = true) {R : WRecords} {cl : Str → Option Addr} {mean : ExcName → Option Value} (hrd : ReadsAllW R cl s₁.heap vals args as) :
    wpAny (model l.prog w) callerA (call (.ref a) vals) (fun v s' => GoodWG l.row.toRowW.claim cl mean args s₁ (.ok (.ret v)) s') (fun e s' => GoodWG l.row.toRowW.claim cl mean args s₁ (.error e) s') s₁ := by
  rw [hp]
  obtain ⟨s, e, hg⟩ := Y
  obtain ⟨H, FL, hl⟩ := facts03 e hg B
  obtain rfl : a = aLaw := by
    have := hmg.symm.trans hl
    injection this with this; injection this
  obtain ⟨ns, rfl, hns⟩ := pre_of l hm hpre
  cases hrd with
  | cons r1 r2 =>
    cases r2
    cases r1 with
    | list h1 h2 h3 h4 =>
      rename_i a o vs n as'
      refine wpAny_call (law_call H FL rfl (by decide) (fun L fd => ?_) (vs := vs.toList) ?_ (reads_ints h4) hns fun σ' s' R' => ?_)
      · show callerA.units + 3 < cLine; decide
      · exact ⟨o, h1, h2, n, by rw [Array.toArray_toList]; exact h3⟩
      · exact GoodW.toG ⟨.inl ⟨_, .bool true, [], rfl, fun _ => rfl, .bool true, post_true _ _, fun _ => ⟨List.nodup_nil, none_of⟩⟩, R'.keep, R'.os, R'.gens.trans hgens⟩
end Mine
end

set_option maxHeartbeats 8000000 in
theorem PySem.Challenge.cw_sn0049_03_holds : PySem.Challenge.rw_sn0049_03.Holds := by
  o_law
  refine PySem.W.holds_open (q := Mine.q03) (loose := Mine.loose03) (Xt := fun _ => true) (XP := fun _ _ => True) (Yf := Mine.sees) (Ya := fun _ => Mine.seenIs) (YP := Mine.YP03) (N := 5000) Mine.left03
    (fun w s e => ⟨s, e, fun _ _ h => h⟩) (fun w h h' ⟨s, e, g⟩ hk => ⟨s, e, fun b o x => hk b o (g b o x)⟩) (fun _ _ => trivial) (fun _ _ _ _ _ => trivial) (by rfl) (by rfl) (by rfl) (fun s e => recFacts_nil rfl) (by rfl) (by assumption) (by decide +kernel)
    ⟨rfl, rfl, rfl, rfl, rfl, by decide +kernel⟩ ⟨[.list [.int 3, .int 1]], by decide +kernel, by decide +kernel⟩ ?_
  intro w s₀ s₁ mg mb G Y a o pm cd doc dV kV ho hd hcd hD hmg hgens args vals as hpre hlay hrd hwl hlo
  exact Mine.call03 PySem.Challenge.rw_sn0049_03 rfl rfl Y ⟨G.T.g, G.T.b, G.T.nolimit, G.T.builtins⟩ hmg hgens hpre hrd
